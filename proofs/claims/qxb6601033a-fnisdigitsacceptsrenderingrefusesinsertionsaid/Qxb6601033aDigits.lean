/-
  'isDigits' and 'zzUtoa' by their contracts.
-/
import Derived.Test.Qxb6601033aRows
import Derived.WalkKit
import Derived.ProofKit
import Derived.WalkSpells
import Derived.WalkLawsBesides
import Derived.Laws.IdiomStrings
namespace Go.Proofs.Qxb6601033a
open Go.ChangeShapes Go.WideShapes Go.ChangeAt Go.RowKit
set_option linter.unusedVariables false

/-- A decimal digit. -/
def dig (c : Nat) : Bool := decide (48 ≤ c) && decide (c ≤ 57)

theorem dig_true {c : Nat} (h : dig c = true) : (48 : Int) ≤ c ∧ (c : Int) ≤ 57 := by simp [dig] at h; omega
theorem dig_false {c : Nat} (h : dig c = false) : (c : Int) < 48 ∨ ((48 : Int) ≤ c ∧ (57 : Int) < c) := by simp [dig] at h; omega

theorem first_bad (f : Nat → Bool) : ∀ n : Nat, (∀ i, i < n → f i = true) ∨ ∃ j, j < n ∧ f j = false ∧ ∀ i, i < j → f i = true := by
  intro n
  induction n with
  | zero => left; intro i h; omega
  | succ n ih =>
    rcases ih with h | ⟨j, h1, h2, h3⟩
    · cases hf : f n with
      | true =>
        left
        intro i hi
        by_cases e : i = n
        · subst e; exact hf
        · exact h i (by omega)
      | false => right; exact ⟨n, by omega, hf, h⟩
    · right; exact ⟨j, by omega, h2, h3⟩

theorem not_empty {s : ByteArray} (h : 1 ≤ s.size) : s.toList.isEmpty = false := by
  cases hs : s.toList with
  | nil =>
    exfalso
    have : s.data.toList = [] := by
      have e := ByteArray.toList_eq s
      rw [hs] at e
      exact e.symm
    have : s.size = 0 := by
      show s.data.size = 0
      rw [← Array.length_toList, this]; rfl
    omega
  | cons a l => rfl

set_option maxHeartbeats 400000 in
theorem digits_yes (s : ByteArray) (w : World) (hs : s.size ≤ 9223372036854775807) (h1 : 1 ≤ s.size) (hall : ∀ i (h : i < s.size), dig (s[i]'h).toNat = true) :
    Calls Try.prog 8 #[.string s] w fun e w' => e = .returned (.bool true) ∧ w' = w := by
  have hne := not_empty h1
  go_enter Try.func8, Try.ntmps8
  go_wp2
  go_loop [3] (fun x => ∃ k : Nat, k ≤ s.size ∧ x = .int .i64 k) (fun x => s.size - (intOf x).toNat)
  case atStart => exact ⟨0, Nat.zero_le _, rfl⟩
  case round =>
    obtain ⟨k, hk, rfl⟩ := hrel
    by_cases hlt : k < s.size
    · obtain ⟨b1, b2⟩ := dig_true (hall k hlt)
      clear hall
      go_wp2
      go_round
      case rel => exact ⟨k + 1, by omega, by go_num⟩
      case measure => simp [intOf]; omega
    · go_wp2
      go_ret
      exact ⟨rfl, rfl⟩

set_option maxHeartbeats 400000 in
theorem digits_bad (s : ByteArray) (w : World) (hs : s.size ≤ 9223372036854775807) (j : Nat) (hj : j < s.size) (hall : ∀ i (h : i < j), dig (s[i]'(by omega)).toNat = true) (hbad : dig (s[j]'hj).toNat = false) :
    Calls Try.prog 8 #[.string s] w fun e w' => e = .returned (.bool false) ∧ w' = w := by
  have hne := not_empty (s := s) (by omega)
  go_enter Try.func8, Try.ntmps8
  go_wp2
  go_loop [3] (fun x => ∃ k : Nat, k ≤ j ∧ x = .int .i64 k) (fun x => s.size - (intOf x).toNat)
  case atStart => exact ⟨0, Nat.zero_le _, rfl⟩
  case round =>
    obtain ⟨k, hk, rfl⟩ := hrel
    by_cases hlt : k < j
    · have hks : k < s.size := by omega
      obtain ⟨b1, b2⟩ := dig_true (hall k hlt)
      clear hall hbad
      go_wp2
      go_round
      case rel => exact ⟨k + 1, by omega, by go_num⟩
      case measure => simp [intOf]; omega
    · obtain rfl : k = j := by omega
      have hb := dig_false hbad
      clear hall hbad
      rcases hb with b1 | ⟨b1, b2⟩
      all_goals
        go_wp2
        go_ret
        exact ⟨rfl, rfl⟩

theorem digits_no (s : ByteArray) (w : World) (hs : s.size ≤ 9223372036854775807) (m : Nat) (hm : m < s.size) (hbad : dig (s[m]'hm).toNat = false) :
    Calls Try.prog 8 #[.string s] w fun e w' => e = .returned (.bool false) ∧ w' = w := by
  rcases first_bad (fun i => if h : i < s.size then dig (s[i]'h).toNat else true) s.size with ha | ⟨j, hj, hb, ha⟩
  · have := ha m hm
    rw [dif_pos hm, hbad] at this
    cases this
  · rw [dif_pos hj] at hb
    exact digits_bad s w hs j hj (fun i hi => by have := ha i hi; rwa [dif_pos (by omega)] at this) hb

theorem digz {s : ByteArray} {w : World} {b : Bool} (h : Calls Try.prog 8 #[.string s] w fun e w' => e = .returned (.bool b) ∧ w' = w) :
    Calls Try.prog 6 #[.string s] w fun e w' => e = .returned (.bool b) ∧ w' = w := by
  go_enter Try.func6, Try.ntmps6
  go_wp2_with fail
  refine h.mono ?_
  rintro e w' ⟨rfl, rfl⟩
  go_wp2
  go_ret
  exact ⟨rfl, rfl⟩

end Go.Proofs.Qxb6601033a
