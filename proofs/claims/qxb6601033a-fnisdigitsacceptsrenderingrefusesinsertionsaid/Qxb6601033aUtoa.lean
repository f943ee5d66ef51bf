/-
  'zzUtoa' by its contract: one to twenty decimal digits.
-/
import Derived.Test.Qxb6601033aDigits
namespace Go.Proofs.Qxb6601033a
open Go.ChangeShapes Go.WideShapes Go.ChangeAt Go.RowKit
set_option linter.unusedVariables false

def U8 (l : List Int) : List Value := l.map (Value.int .u8)
theorem U8_get (l : List Int) (j : Nat) (h : j < l.length) : (U8 l)[j]? = some (.int .u8 (l.getD j 0)) := by
  simp [U8, List.getD, h]

/-- The local array of 20 bytes: from place i on it holds digits. -/
def Arr (w wr : World) (i : Nat) : Prop :=
  ∃ arr : List Int, arr.length = 20 ∧ (∀ j, i ≤ j → j < 20 → 48 ≤ arr.getD j 0 ∧ arr.getD j 0 ≤ 57) ∧ wr.ownsRow w.heap.size 28 1 (.slice (some ⟨w.heap.size, 0, none⟩) 20 20) 20 (U8 arr) ∧ Below w.heap.size w wr

theorem Arr.below {w wr : World} {i : Nat} (h : Arr w wr i) : Below w.heap.size w wr := by
  obtain ⟨_, _, _, _, h⟩ := h; exact h

theorem Arr.cell {w wr : World} {i : Nat} (h : Arr w wr i) (j : Nat) (hj : j < 20) : ∃ z, wr.cell? ⟨w.heap.size, j, none⟩ = some (.int .u8 z) := by
  obtain ⟨arr, hl, _, ho, _⟩ := h
  exact ⟨arr.getD j 0, by rw [ho.cellAt j (by omega), U8_get _ _ (by omega)]⟩

theorem Arr.free {w wr : World} {i : Nat} (h : Arr w wr i) (j : Nat) : wr.frozen? ⟨w.heap.size, j, none⟩ = false := by
  obtain ⟨arr, hl, _, ho, _⟩ := h
  exact ho.frozenAt j

theorem Arr.store {w wr : World} {i : Nat} (h : Arr w wr (i + 1)) (hi : i < 20) (z : Int) (h1 : 48 ≤ z) (h2 : z ≤ 57) : Arr w (wr.setCell ⟨w.heap.size, i, none⟩ (.int .u8 z)) i := by
  obtain ⟨arr, hl, ht, ho, hb⟩ := h
  have e : (U8 arr).set i (.int .u8 z) = U8 (arr.set i z) := by simp [U8]
  refine ⟨arr.set i z, by simpa using hl, ?_, by rw [← e]; exact (ho.stored i (.int .u8 z)).1, hb.setCell (p := ⟨w.heap.size, i, none⟩) (Nat.le_refl _) _⟩
  intro j hj hj2
  by_cases he : j = i
  · subst he
    simp [List.getD, hl, hi]
    omega
  · have := ht j (by omega) hj2
    have e2 : (arr.set i z).getD j 0 = arr.getD j 0 := by
      simp [List.getD, List.getElem?_set_ne (Ne.symm he)]
    rw [e2]; exact this

def zeros20 : Array Value := #[Value.int .u8 0, Value.int .u8 0, Value.int .u8 0, Value.int .u8 0, Value.int .u8 0, Value.int .u8 0, Value.int .u8 0, Value.int .u8 0, Value.int .u8 0, Value.int .u8 0, Value.int .u8 0, Value.int .u8 0, Value.int .u8 0, Value.int .u8 0, Value.int .u8 0, Value.int .u8 0, Value.int .u8 0, Value.int .u8 0, Value.int .u8 0, Value.int .u8 0]

theorem Arr.start (w : World) : Arr w (w.alloc (.cells zeros20 28)) 20 := by
  refine ⟨List.replicate 20 0, rfl, fun j h1 h2 => by omega, ?_, (Below.refl _ _).alloc (Nat.le_refl _) _⟩
  exact World.ownsRow_lit (e := 28) (size := 1) w zeros20 20 (Nat.le_refl _) (by unfold maxLen; omega) rfl

theorem arr28 : Try.prog.arrayLen 28 = 20 := by kernel_rfl
theorem elem28 : Try.prog.elem 28 = 5 := by kernel_rfl
theorem under28 : Try.prog.underlying 28 = some (.array (Try.prog.arrayLen 28) (Try.prog.elem 28)) := by kernel_rfl
theorem size5 (w : World) : (Go.sizeOf 5).run Try.prog w = .ok 1 w := by kernel_rfl

theorem slice28 (W : World) (b i : Nat) (hi : i < 20) : (Instr.sliceAt 28 (.pointer (some ⟨b, 0, none⟩)) (some (.int .i64 (i : Int))) none none).run Try.prog W = .ok (.slice (some ⟨b, i, none⟩) (20 - i) (20 - i)) W := by
  rw [run_sliceAt_array_l W 28 _ under28 .i64 (i : Int) (by omega) (by rw [arr28]; omega), elem28, size5, arr28]
  have : ¬ 20 = i := by omega
  simp only [Result.andThen, slicedAt, this, Addr.add_lit, Int.toNat_natCast, if_false, Nat.mul_one, Nat.zero_add]

/-- A rendering: one to twenty digits. -/
def Ren (s : ByteArray) : Prop := 1 ≤ s.size ∧ s.size ≤ 20 ∧ ∀ i (h : i < s.size), dig (s[i]'h).toNat = true

theorem Arr.text {w wr : World} {i : Nat} (h : Arr w wr i) (hi : i < 20) : ∃ s, (convert 26 9 (.slice (some ⟨w.heap.size, i, none⟩) (20 - i) (20 - i))).run Try.prog wr = .ok (.string s) wr ∧ Ren s := by
  obtain ⟨arr, hl, hd, ho, _⟩ := h
  let l : List UInt8 := (List.range (20 - i)).map fun j => UInt8.ofNat (arr.getD (i + j) 0).toNat
  have hll : l.length = 20 - i := by simp [l]
  have hat : ∀ j (hj : j < l.length), (l[j].toNat : Int) = arr.getD (i + j) 0 := by
    intro j hj
    have hj' : j < 20 - i := by omega
    have := hd (i + j) (by omega) (by omega)
    simp only [l, List.getElem_map, List.getElem_range, UInt8.toNat_ofNat']
    omega
  have hc := run_convert_bytes_back (P := Try.prog) wr 26 9 5 ⟨w.heap.size, i, none⟩ (20 - i) l Try.underlying26 Try.underlying5 Try.underlying9 (by
    intro j hj
    rw [Addr.add_lit, ho.cellAt (i + j) (by omega), U8_get _ _ (by omega), hat j hj])
  rw [hll] at hc
  refine ⟨⟨l.toArray⟩, hc, ?_, ?_, ?_⟩
  · show 1 ≤ l.toArray.size
    simp [hll]; omega
  · show l.toArray.size ≤ 20
    simp [hll]
  · intro j hj
    have hj' : j < l.length := by
      have : j < l.toArray.size := hj
      simpa using this
    have e : ((⟨l.toArray⟩ : ByteArray)[j]'hj) = l[j] := by
      show l.toArray[j] = l[j]
      simp
    rw [e]
    have h1 := hat j hj'
    have h2 := hd (i + j) (by omega) (by omega)
    simp only [dig, Bool.and_eq_true, decide_eq_true_eq]
    omega

/-- The loop's state: 20 - i digits are laid; q is what is left. -/
def St (m : Nat) (w wr : World) (j i q : Nat) : Prop := i + j = 20 ∧ q = m / 10 ^ j ∧ Arr w wr i

theorem St.step {m : Nat} {w wr : World} {j i q : Nat} (h : St m w wr j (i + 1) q) : St m w (wr.setCell ⟨w.heap.size, i, none⟩ (.int .u8 (48 + (q : Int) % 10))) (j + 1) i (q / 10) := by
  obtain ⟨h1, h2, h3⟩ := h
  subst h2
  exact ⟨by omega, by rw [Nat.div_div_eq_div_mul, Nat.pow_succ], h3.store (by omega) _ (by omega) (by omega)⟩

theorem St.room {m : Nat} {w wr : World} {j i q : Nat} (hm : m < 18446744073709551616) (h : St m w wr j i q) (hq : 0 < q) : 1 ≤ i := by
  obtain ⟨h1, h2, _⟩ := h
  by_cases hc : 1 ≤ i
  · exact hc
  · exfalso
    obtain rfl : j = 20 := by omega
    have h3 : (18446744073709551616 : Nat) ≤ 10 ^ 20 := by decide
    have h4 : m / 10 ^ 20 = 0 := Nat.div_eq_of_lt (by omega)
    omega

set_option maxHeartbeats 400000 in
theorem utoa_pos (m : Nat) (w : World) (hm : m < 18446744073709551616) (h0 : 0 < m) :
    Calls Try.prog 7 #[.int .u64 m] w fun e w' => ∃ s, e = .returned (.string s) ∧ Ren s ∧ Below w.heap.size w w' := by
  have hA0 := Arr.start w
  unfold zeros20 at hA0
  go_enter Try.func7, Try.ntmps7
  go_wp2
  go_loopw [0, 4] (fun mq ii wr => ∃ j i q : Nat, i ≤ 20 ∧ mq = .int .u64 q ∧ ii = .int .i64 i ∧ q < 18446744073709551616 ∧ (i ≤ 19 ∨ 0 < q) ∧ St m w wr j i q)
    (fun _ ii _ => (intOf ii).toNat)
  case atStart => exact ⟨0, 20, m, by omega, rfl, rfl, hm, .inr h0, rfl, by simp, hA0⟩
  case round =>
    clear hA0
    obtain ⟨j, i, q, hi, rfl, rfl, hq, hiq, hs⟩ := hrel
    by_cases hlt : 0 < q
    · have hr := hs.room hm hlt
      obtain ⟨i, rfl⟩ : ∃ i', i = i' + 1 := ⟨i - 1, by omega⟩
      have hst := hs.step
      have hfz := hs.2.2.free i
      obtain ⟨zc, hcz⟩ := hs.2.2.cell i (by omega)
      clear hs hiq
      go_wp2
      go_roundw
      case rel => exact ⟨j + 1, i, q / 10, by omega, by go_num, by go_num, by omega, .inl (by omega), hst⟩
      case measure => simp [intOf]
    · have hi9 : i < 20 := by omega
      obtain ⟨s, hcv, hR⟩ := hs.2.2.text hi9
      have hbl := hs.2.2.below
      have hsl := fun W => slice28 W w.heap.size i hi9
      clear hs hiq
      go_wp2
      go_ret
      exact ⟨s, rfl, hR, hbl⟩

theorem utoa_zero (w : World) :
    Calls Try.prog 7 #[.int .u64 0] w fun e w' => ∃ s, e = .returned (.string s) ∧ Ren s ∧ Below w.heap.size w w' := by
  go_enter Try.func7, Try.ntmps7
  go_wp2
  go_ret
  refine ⟨⟨#[48]⟩, rfl, ⟨by decide, by decide, ?_⟩, Below.refl _ _⟩
  intro i h
  have hi : i < 1 := h
  obtain rfl : i = 0 := by omega
  rfl

theorem utoa_any (m : Nat) (w : World) (hm : m < 18446744073709551616) :
    Calls Try.prog 7 #[.int .u64 m] w fun e w' => ∃ s, e = .returned (.string s) ∧ Ren s ∧ Below w.heap.size w w' := by
  by_cases h0 : 0 < m
  · exact utoa_pos m w hm h0
  · obtain rfl : m = 0 := by omega
    exact utoa_zero w

end Go.Proofs.Qxb6601033a
