/-
  The text that 'FnCutShapeTakesAnyInstance' builds, as plain data; and what cutShape makes of it.
-/
import Derived.Test.Qxb6605562aCut
namespace Go.Proofs.Qxb6605562a
open Go.ChangeShapes Go.WideShapes Go.ChangeAt Go.RowKit
set_option linter.unusedVariables false

/-- The byte that stands for the shape's byte p where pick has q. -/
def inst (p : Nat) (q : Option Nat) : Nat :=
  if p = 100 then (match q with | some q => 48 + (q + 208) % 256 % 10 | none => 48) else if p = 43 then (if q = some 45 then 45 else 43) else p

theorem inst_taken (p : Nat) (q : Option Nat) : takes (inst p q) p = true := by
  unfold inst takes
  by_cases h1 : p = 100
  · rw [if_pos h1, if_pos h1]
    cases q with
    | none => rfl
    | some q =>
      have : (q + 208) % 256 % 10 < 10 := Nat.mod_lt _ (by omega)
      simp
      omega
  · rw [if_neg h1, if_neg h1]
    by_cases h2 : p = 43
    · rw [if_pos h2, if_pos h2]
      by_cases h3 : q = some 45
      · simp [h3]
      · simp [h3]
    · rw [if_neg h2, if_neg h2]; simp

theorem inst_lt (p : Nat) (q : Option Nat) (hp : p < 256) : inst p q < 256 := by
  unfold inst
  split
  · split
    · omega
    · omega
  · split
    · split <;> omega
    · exact hp

def pickAt (pick : ByteArray) (i : Nat) : Option Nat := if h : i < pick.size then some (pick[i]'h).toNat else none

/-- The text: what stands for the shape, then the rest. -/
def tx (shape rest pick : ByteArray) (i : Nat) : Nat :=
  if h : i < shape.size then inst (shape[i]'h).toNat (pickAt pick i) else if h : i - shape.size < rest.size then (rest[i - shape.size]'h).toNat else 0

theorem tx_lt (shape rest pick : ByteArray) (i : Nat) : tx shape rest pick i < 256 := by
  unfold tx
  split
  · exact inst_lt _ _ (UInt8.toNat_lt _)
  · split
    · exact UInt8.toNat_lt _
    · omega

/-- The first k numbers of f. -/
def pre (f : Nat → Nat) (k : Nat) : List Int := (List.range k).map fun i => ((f i : Nat) : Int)
theorem pre_zero (f : Nat → Nat) : pre f 0 = [] := rfl
theorem pre_succ (f : Nat → Nat) (k : Nat) : pre f (k + 1) = pre f k ++ [((f k : Nat) : Int)] := by simp [pre, List.range_succ]

/-- The first n numbers of f as a string. -/
def str (f : Nat → Nat) (n : Nat) : ByteArray := ⟨((List.range n).map fun i => UInt8.ofNat (f i)).toArray⟩
theorem str_size (f : Nat → Nat) (n : Nat) : (str f n).size = n := by simp [str, ByteArray.size]
theorem str_at (f : Nat → Nat) (n i : Nat) (h : i < (str f n).size) (hf : f i < 256) : ((str f n)[i]'h).toNat = f i := by
  have : (str f n)[i]'h = UInt8.ofNat (f i) := by
    show (str f n).data[i] = _
    simp [str]
  rw [this]
  simp [Nat.mod_eq_of_lt hf]

theorem str_cut (shape rest pick : ByteArray) :
    (str (tx shape rest pick) (shape.size + rest.size)).extract shape.size (str (tx shape rest pick) (shape.size + rest.size)).size = rest := by
  rw [str_size]
  apply ByteArray.ext
  apply Array.ext
  · simp [str]
  · intro i h1 h2
    have hi : i < rest.size := h2
    simp only [ByteArray.data_extract, Array.getElem_extract, str, List.getElem_toArray, List.getElem_map, List.getElem_range]
    have e : tx shape rest pick (shape.size + i) = (rest[i]'hi).toNat := by
      unfold tx
      rw [dif_neg (by omega)]
      simp [Nat.add_sub_cancel_left, hi]
    rw [e]
    simp
    rfl

theorem cut_inst (shape rest pick : ByteArray) (w : World) (h : shape.size + rest.size ≤ 1048576) :
    Calls Try.prog 22 #[.string (str (tx shape rest pick) (shape.size + rest.size)), .string shape] w fun e w' => e = .returned (.tuple #[.string rest, .bool true]) ∧ w' = w := by
  have hc := cut_yes (str (tx shape rest pick) (shape.size + rest.size)) shape w (by rw [str_size]; unfold maxLen; omega) (by rw [str_size]; omega) (by
    intro i hi
    rw [str_at _ _ _ _ (tx_lt _ _ _ _)]
    unfold tx
    rw [dif_pos hi]
    exact inst_taken _ _)
  rw [str_cut] at hc
  go_enter Try.func22, Try.ntmps22
  go_wp2_with fail
  refine hc.mono ?_
  rintro e w' ⟨rfl, rfl⟩
  go_wp2
  go_ret2
  exact ⟨rfl, rfl⟩

end Go.Proofs.Qxb6605562a
