/-
  'cutShape' by its contracts.
-/
import Derived.Test.Qxb6605562aRows
import Derived.WalkKit
import Derived.ProofKit
import Derived.WalkSpells
import Derived.WalkLawsBesides
namespace Go.Proofs.Qxb6605562a
open Go.ChangeShapes Go.WideShapes Go.ChangeAt Go.RowKit
set_option linter.unusedVariables false

/-- Does the byte p of a shape take the byte c of the text? -/
def takes (c p : Nat) : Bool := if p = 100 then decide (48 ≤ c) && decide (c ≤ 57) else if p = 43 then (c == 43) || (c == 45) else c == p

theorem takes_true {c p : Nat} (h : takes c p = true) :
    ((100 : Int) ≤ p ∧ (p : Int) ≤ 100 ∧ (48 : Int) ≤ c ∧ (c : Int) ≤ 57) ∨ ((43 : Int) ≤ p ∧ (p : Int) ≤ 43 ∧ ((c : Int) == 43) = true ∧ True) ∨ ((43 : Int) ≤ p ∧ (p : Int) ≤ 43 ∧ ((c : Int) == 43) = false ∧ ((c : Int) == 45) = true) ∨
    (((p : Int) == 100) = false ∧ ((p : Int) == 43) = false ∧ ((c : Int) == p) = true) := by
  unfold takes at h
  split at h
  · simp at h; left; omega
  · split at h
    · simp at h; right
      rcases h with h | h
      · left; exact ⟨by omega, by omega, by simp [h], trivial⟩
      · right; left; exact ⟨by omega, by omega, by simp [h], by simp [h]⟩
    · simp at h
      right; right; right
      refine ⟨by simp; omega, by simp; omega, by simp [h]⟩

theorem takes_false {c p : Nat} (h : takes c p = false) :
    ((100 : Int) ≤ p ∧ (p : Int) ≤ 100 ∧ (c : Int) < 48) ∨ ((100 : Int) ≤ p ∧ (p : Int) ≤ 100 ∧ (48 : Int) ≤ c ∧ decide ((c : Int) ≤ 57) = false) ∨ ((43 : Int) ≤ p ∧ (p : Int) ≤ 43 ∧ ((c : Int) == 43) = false ∧ ((c : Int) == 45) = false) ∨
    (((p : Int) == 100) = false ∧ ((p : Int) == 43) = false ∧ ((c : Int) == p) = false) := by
  unfold takes at h
  split at h
  · simp at h
    by_cases h8 : c < 48
    · left; omega
    · right; left; exact ⟨by omega, by omega, by omega, decide_eq_false (by omega)⟩
  · split at h
    · simp at h; right; right; left
      refine ⟨by omega, by omega, by simp; omega, by simp; omega⟩
    · simp at h
      right; right; right
      refine ⟨by simp; omega, by simp; omega, by simp; omega⟩

set_option maxHeartbeats 400000 in
theorem cut_yes (s shape : ByteArray) (w : World) (hs : s.size ≤ maxLen) (hle : shape.size ≤ s.size) (hall : ∀ i (h : i < shape.size), takes (s[i]'(by omega)).toNat (shape[i]'h).toNat = true) :
    Calls Try.prog 27 #[.string s, .string shape] w fun e w' => e = .returned (.tuple #[.string (s.extract shape.size s.size), .bool true]) ∧ w' = w := by
  unfold maxLen at hs
  go_enter Try.func27, Try.ntmps27
  go_wp2
  go_loop [6] (fun i => ∃ k : Nat, k ≤ shape.size ∧ i = .int .i64 k) (fun i => shape.size - (intOf i).toNat)
  case atStart => exact ⟨0, Nat.zero_le _, rfl⟩
  case round =>
    obtain ⟨k, hk, rfl⟩ := hrel
    by_cases hlt : k < shape.size
    · have hls : k < s.size := by omega
      have ht := takes_true (hall k hlt)
      clear hall
      rcases ht with ⟨h1, h2, h3, h4⟩ | ⟨h1, h2, h3, h4⟩ | ⟨h1, h2, h3, h4⟩ | ⟨h1, h2, h3⟩
      all_goals
        go_wp2
        go_round
        case rel => exact ⟨k + 1, by omega, by go_num⟩
        case measure => simp [intOf]; omega
    · go_wp2
      go_ret2
      exact ⟨rfl, rfl⟩

set_option maxHeartbeats 400000 in
theorem cut_no (s shape : ByteArray) (w : World) (hs : s.size ≤ maxLen) (hle : shape.size ≤ s.size) (j : Nat) (hj : j < shape.size)
    (hall : ∀ i (h : i < j), takes (s[i]'(by omega)).toNat (shape[i]'(by omega)).toNat = true) (hbad : takes (s[j]'(by omega)).toNat (shape[j]'hj).toNat = false) :
    Calls Try.prog 27 #[.string s, .string shape] w fun e w' => e = .returned (.tuple #[.string s, .bool false]) ∧ w' = w := by
  unfold maxLen at hs
  go_enter Try.func27, Try.ntmps27
  go_wp2
  go_loop [6] (fun i => ∃ k : Nat, k ≤ j ∧ i = .int .i64 k) (fun i => shape.size - (intOf i).toNat)
  case atStart => exact ⟨0, Nat.zero_le _, rfl⟩
  case round =>
    obtain ⟨k, hk, rfl⟩ := hrel
    by_cases hlt : k < j
    · have hls : k < s.size := by omega
      have hlp : k < shape.size := by omega
      have ht := takes_true (hall k hlt)
      clear hall hbad
      rcases ht with ⟨h1, h2, h3, h4⟩ | ⟨h1, h2, h3, h4⟩ | ⟨h1, h2, h3, h4⟩ | ⟨h1, h2, h3⟩
      all_goals
        go_wp2
        go_round
        case rel => exact ⟨k + 1, by omega, by go_num⟩
        case measure => simp [intOf]; omega
    · obtain rfl : k = j := by omega
      have hls : k < s.size := by omega
      have ht := takes_false hbad
      clear hall hbad
      rcases ht with ⟨h1, h2, h3⟩ | ⟨h1, h2, h3, h4⟩ | ⟨h1, h2, h3, h4⟩ | ⟨h1, h2, h3⟩
      all_goals
        go_wp2
        go_ret2
        exact ⟨rfl, rfl⟩

theorem cut_short (s shape : ByteArray) (w : World) (hs : shape.size ≤ maxLen) (hlt : s.size < shape.size) :
    Calls Try.prog 27 #[.string s, .string shape] w fun e w' => e = .returned (.tuple #[.string s, .bool false]) ∧ w' = w := by
  unfold maxLen at hs
  go_enter Try.func27, Try.ntmps27
  go_wp2
  go_ret2
  exact ⟨rfl, rfl⟩
end Go.Proofs.Qxb6605562a
