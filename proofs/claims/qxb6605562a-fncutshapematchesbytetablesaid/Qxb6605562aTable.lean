/-
  'FnCutShapeMatchesByteTable': the walk.
-/
import Derived.Test.Qxb6605562aCut
import Derived.RegionTactic
import Derived.Deep.QuietTactic
import Derived.BigQuiet
namespace Go.Proofs.Qxb6605562a
open Go.ChangeShapes Go.WideShapes Go.ChangeAt Go.RowKit
set_option linter.unusedVariables false

theorem zz21 (s r : ByteArray) (w : World) (h : s.size + r.size ≤ 1048576) :
    Calls Try.prog 21 #[.string s, .string r] w fun e w' => e = .returned (.bool true) ∧ w' = w := by
  go_enter Try.func21, Try.ntmps21
  go_wp2
  go_ret
  exact ⟨rfl, rfl⟩

set_option maxHeartbeats 400000 in
theorem zz21_no (s r : ByteArray) (w : World) (hs : s.size ≤ maxLen) (hr : r.size ≤ maxLen) (h : 1048576 < s.size + r.size) :
    Calls Try.prog 21 #[.string s, .string r] w fun e w' => e = .returned (.bool false) ∧ w' = w := by
  unfold maxLen at hs hr
  have h5 : 1048576 < s.size ∨ (s.size ≤ 1048576 ∧ 1048576 < r.size) ∨ (s.size ≤ 1048576 ∧ r.size ≤ 1048576 ∧ 1048576 < s.size + r.size) := by omega
  clear h
  rcases h5 with h | ⟨h, h'⟩ | ⟨h, h', h''⟩
  all_goals
    go_enter Try.func21, Try.ntmps21
    go_wp2
    go_ret
    exact ⟨rfl, rfl⟩

/-- The table's ways. -/
theorem table_ways (c p : Nat) :
    ((48 : Int) ≤ c ∧ (c : Int) ≤ 57 ∧ ((p : Int) == c) = true ∧ takes c p = true) ∨
    ((48 : Int) ≤ c ∧ (c : Int) ≤ 57 ∧ ((p : Int) == c) = false ∧ ((p : Int) == 100) = takes c p) ∨
    ((decide ((48 : Int) ≤ c) = false ∨ (decide ((48 : Int) ≤ c) = true ∧ decide ((c : Int) ≤ 57) = false)) ∧
      ((((c : Int) == 43) = true ∧ ((p : Int) == 43) = takes c p) ∨
       (((c : Int) == 43) = false ∧ ((c : Int) == 45) = true ∧ ((p : Int) == 45) = true ∧ takes c p = true) ∨
       (((c : Int) == 43) = false ∧ ((c : Int) == 45) = true ∧ ((p : Int) == 45) = false ∧ ((p : Int) == 43) = takes c p) ∨
       (((c : Int) == 43) = false ∧ ((c : Int) == 45) = false ∧ ((c : Int) == 100) = true ∧ takes c p = false) ∨
       (((c : Int) == 43) = false ∧ ((c : Int) == 45) = false ∧ ((c : Int) == 100) = false ∧ ((p : Int) == c) = takes c p))) := by
  have e : ∀ a b : Nat, ((a : Int) == (b : Int)) = decide (a = b) := fun a b => by
    rw [Bool.eq_iff_iff]; simp; omega
  have e43 : ∀ a : Nat, ((a : Int) == 43) = decide (a = 43) := fun a => e a 43
  have e45 : ∀ a : Nat, ((a : Int) == 45) = decide (a = 45) := fun a => e a 45
  have e100 : ∀ a : Nat, ((a : Int) == 100) = decide (a = 100) := fun a => e a 100
  simp only [e, e43, e45, e100]
  by_cases hd : 48 ≤ c ∧ c ≤ 57
  · by_cases hp : p = c
    · left
      refine ⟨by omega, by omega, by simpa using hp, ?_⟩
      unfold takes
      rw [if_neg (by omega), if_neg (by omega)]; simp [hp]
    · right; left
      refine ⟨by omega, by omega, by simpa using hp, ?_⟩
      unfold takes
      by_cases h1 : p = 100
      · simp [h1]; omega
      · rw [if_neg h1]
        by_cases h2 : p = 43
        · simp [h2]; omega
        · simp [h1, h2]; omega
  · right; right
    refine ⟨?_, ?_⟩
    · by_cases h8 : 48 ≤ c
      · right; exact ⟨decide_eq_true (by omega), decide_eq_false (by omega)⟩
      · left; exact decide_eq_false (by omega)
    · have ht : takes c p = if p = 100 then false else if p = 43 then (c == 43) || (c == 45) else c == p := by
        unfold takes
        by_cases h1 : p = 100
        · simp [h1]; omega
        · simp [h1]
      rw [ht]
      by_cases c1 : c = 43
      · subst c1
        left
        refine ⟨by simp, ?_⟩
        by_cases h1 : p = 100
        · simp [h1]
        · by_cases h2 : p = 43
          · simp [h2]
          · simp [h1, h2]; omega
      · by_cases c2 : c = 45
        · subst c2
          by_cases h3 : p = 45
          · subst h3; right; left; simp
          · right; right; left
            refine ⟨by simp, by simp, by simpa using h3, ?_⟩
            by_cases h1 : p = 100
            · simp [h1]
            · by_cases h2 : p = 43
              · simp [h2]
              · simp [h1, h2]; omega
        · by_cases c3 : c = 100
          · subst c3
            right; right; right; left
            refine ⟨by simp, by simp, by simp, ?_⟩
            by_cases h1 : p = 100
            · simp [h1]
            · by_cases h2 : p = 43
              · simp [h2]
              · simp [h1, h2]; omega
          · right; right; right; right
            refine ⟨by simpa using c1, by simpa using c2, by simpa using c3, ?_⟩
            by_cases h1 : p = 100
            · simp [h1]; omega
            · by_cases h2 : p = 43
              · rw [Bool.eq_iff_iff]; simp [h2]; omega
              · simp [h1, h2]; rw [Bool.eq_iff_iff]; simp; omega

set_option maxHeartbeats 400000 in
theorem taken_any (c p : Nat) (w : World) (hc : c < 256) (hp : p < 256) :
    Calls Try.prog 23 #[.int .u8 c, .int .u8 p] w fun e w' => e = .returned (.bool (takes c p)) ∧ w' = w := by
  have hw := table_ways c p
  generalize takes c p = tk at hw
  rcases hw with ⟨h1, h2, h3, rfl⟩ | ⟨h1, h2, h3, h4⟩ | ⟨h0 | ⟨h0, h0'⟩, ⟨h1, h2⟩ | ⟨h1, h2, h3, rfl⟩ | ⟨h1, h2, h3, h4⟩ | ⟨h1, h2, h3, rfl⟩ | ⟨h1, h2, h3, h4⟩⟩
  all_goals
    go_enter Try.func23, Try.ntmps23
    go_wp2
    go_ret
    exact ⟨rfl, rfl⟩

/-- The first byte that is not taken, or none. -/
theorem first_bad (f : Nat → Bool) : ∀ n : Nat, (∀ i, i < n → f i = true) ∨ ∃ j, j < n ∧ f j = false ∧ ∀ i, i < j → f i = true := by
  intro n
  induction n with
  | zero => left; intro i h; omega
  | succ n ih =>
    rcases ih with h | ⟨j, h1, h2, h3⟩
    · cases hf : f n with
      | true =>
        left
        intro i hi
        by_cases e : i = n
        · subst e; exact hf
        · exact h i (by omega)
      | false => right; exact ⟨n, by omega, hf, h⟩
    · right; exact ⟨j, by omega, h2, h3⟩

theorem cutz {s shape : ByteArray} {w : World} {v : Value} (h : Calls Try.prog 27 #[.string s, .string shape] w fun e w' => e = .returned v ∧ w' = w) (a : ByteArray) (b : Bool) (hv : v = .tuple #[.string a, .bool b]) :
    Calls Try.prog 22 #[.string s, .string shape] w fun e w' => e = .returned (.tuple #[.string a, .bool b]) ∧ w' = w := by
  subst hv
  go_enter Try.func22, Try.ntmps22
  go_wp2_with fail
  refine h.mono ?_
  rintro e w' ⟨rfl, rfl⟩
  go_wp2
  go_ret2
  exact ⟨rfl, rfl⟩

set_option maxHeartbeats 400000 in
theorem table_yes (s shape : ByteArray) (w : World) (h : s.size + shape.size ≤ 1048576) (hle : shape.size ≤ s.size) (hall : ∀ i (h : i < shape.size), takes (s[i]'(by omega)).toNat (shape[i]'h).toNat = true) :
    Calls Try.prog 7 #[.string s, .string shape] w fun e w' => e = .returned (.bool true) ∧ Below w.heap.size w w' := by
  have hcut := cutz (cut_yes s shape w (by unfold maxLen; omega) hle hall) _ _ rfl
  go_enter Try.func7, Try.ntmps7
  go_wp2_with fail
  refine (zz21 s shape _ h).mono ?_
  rintro e w' ⟨rfl, rfl⟩
  go_wp2_with fail
  refine hcut.mono ?_
  rintro e w1 ⟨rfl, rfl⟩
  clear hcut
  go_wp2
  go_loopw [7] (fun i wr => ∃ k : Nat, k ≤ shape.size ∧ i = .int .i64 k ∧ Below w1.heap.size w1 wr) (fun i _ => shape.size - (intOf i).toNat)
  case atStart => exact ⟨0, Nat.zero_le _, rfl, Below.refl _ _⟩
  case round =>
    obtain ⟨k, hk, rfl, hbl⟩ := hrel
    by_cases hlt : k < shape.size
    · have hls : k < s.size := by omega
      have ht := hall k hlt
      have hI1 : (k : Int) < (s.size : Int) := by omega
      have hI2 : (k : Int) < (shape.size : Int) := by omega
      have hcon : ∀ W, Calls Try.prog 23 #[.int .u8 (s[k].toNat : Int), .int .u8 (shape[k].toNat : Int)] W fun e w' => e = .returned (.bool true) ∧ w' = W := fun W => by
        have := taken_any s[k].toNat shape[k].toNat W (UInt8.toNat_lt _) (UInt8.toNat_lt _)
        rw [ht] at this
        exact this
      clear ht hall
      go_wp2
      go_quiet ((go_at_call 23; exact Calls.quiet_of_same (hcon _)))
      go_wp2
      go_roundw
      case rel => exact ⟨k + 1, by omega, by go_num, below_drewN hbl _⟩
      case measure => simp [intOf]; omega
    · clear hall
      go_wp2
      go_ret
      exact ⟨rfl, hbl⟩

set_option maxHeartbeats 400000 in
theorem table_no (s shape : ByteArray) (w : World) (h : s.size + shape.size ≤ 1048576) (hle : shape.size ≤ s.size) (j : Nat) (hj : j < shape.size)
    (hall : ∀ i (h : i < j), takes (s[i]'(by omega)).toNat (shape[i]'(by omega)).toNat = true) (hbad : takes (s[j]'(by omega)).toNat (shape[j]'hj).toNat = false) :
    Calls Try.prog 7 #[.string s, .string shape] w fun e w' => e = .returned (.bool true) ∧ Below w.heap.size w w' := by
  have hcut := cutz (cut_no s shape w (by unfold maxLen; omega) hle j hj hall hbad) _ _ rfl
  go_enter Try.func7, Try.ntmps7
  go_wp2_with fail
  refine (zz21 s shape _ h).mono ?_
  rintro e w' ⟨rfl, rfl⟩
  go_wp2_with fail
  refine hcut.mono ?_
  rintro e w1 ⟨rfl, rfl⟩
  clear hcut
  go_wp2
  go_loopw [7] (fun i wr => ∃ k : Nat, k ≤ j ∧ i = .int .i64 k ∧ Below w1.heap.size w1 wr) (fun i _ => shape.size - (intOf i).toNat)
  case atStart => exact ⟨0, Nat.zero_le _, rfl, Below.refl _ _⟩
  case round =>
    obtain ⟨k, hk, rfl, hbl⟩ := hrel
    have hlp : k < shape.size := by omega
    have hls : k < s.size := by omega
    have hI1 : (k : Int) < (s.size : Int) := by omega
    have hI2 : (k : Int) < (shape.size : Int) := by omega
    by_cases hlt : k < j
    · have ht := hall k hlt
      have hcon : ∀ W, Calls Try.prog 23 #[.int .u8 (s[k].toNat : Int), .int .u8 (shape[k].toNat : Int)] W fun e w' => e = .returned (.bool true) ∧ w' = W := fun W => by
        have := taken_any s[k].toNat shape[k].toNat W (UInt8.toNat_lt _) (UInt8.toNat_lt _)
        rw [ht] at this
        exact this
      clear ht hall hbad
      go_wp2
      go_quiet ((go_at_call 23; exact Calls.quiet_of_same (hcon _)))
      go_wp2
      go_roundw
      case rel => exact ⟨k + 1, by omega, by go_num, below_drewN hbl _⟩
      case measure => simp [intOf]; omega
    · obtain rfl : k = j := by omega
      have hcon : ∀ W, Calls Try.prog 23 #[.int .u8 (s[k].toNat : Int), .int .u8 (shape[k].toNat : Int)] W fun e w' => e = .returned (.bool false) ∧ w' = W := fun W => by
        have := taken_any s[k].toNat shape[k].toNat W (UInt8.toNat_lt _) (UInt8.toNat_lt _)
        rw [hbad] at this
        exact this
      clear hall hbad
      go_wp2
      go_quiet ((go_at_call 23; exact Calls.quiet_of_same (hcon _)))
      go_wp2
      go_ret
      exact ⟨rfl, below_drewN hbl _⟩

theorem table_short (s shape : ByteArray) (w : World) (h : s.size + shape.size ≤ 1048576) (hlt : s.size < shape.size) :
    Calls Try.prog 7 #[.string s, .string shape] w fun e w' => e = .returned (.bool true) ∧ Below w.heap.size w w' := by
  have hcut := cutz (cut_short s shape w (by unfold maxLen; omega) hlt) _ _ rfl
  go_enter Try.func7, Try.ntmps7
  go_wp2_with fail
  refine (zz21 s shape _ h).mono ?_
  rintro e w' ⟨rfl, rfl⟩
  go_wp2_with fail
  refine hcut.mono ?_
  rintro e w1 ⟨rfl, rfl⟩
  clear hcut
  go_wp2
  go_ret
  exact ⟨rfl, Below.refl _ _⟩

theorem table_main (s shape : ByteArray) (w : World) (h : s.size + shape.size ≤ 1048576) :
    Calls Try.prog 7 #[.string s, .string shape] w fun e w' => e = .returned (.bool true) ∧ Below w.heap.size w w' := by
  by_cases hle : shape.size ≤ s.size
  · rcases first_bad (fun i => if h : i < shape.size then takes (s[i]'(by omega)).toNat (shape[i]'h).toNat else true) shape.size with ha | ⟨j, hj, hb, ha⟩
    · exact table_yes s shape w h hle (fun i hi => by have := ha i hi; rwa [dif_pos hi] at this)
    · rw [dif_pos hj] at hb
      exact table_no s shape w h hle j hj (fun i hi => by have := ha i hi; rwa [dif_pos (by omega)] at this) hb
  · exact table_short s shape w h (by omega)

end Go.Proofs.Qxb6605562a
