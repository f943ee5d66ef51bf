/-
  More of the plain mathematics of decimal digits: no Go in sight.
-/
import Derived.Test.Qxb6605562aDec
namespace Go.Proofs.Qxb6605562a
set_option linter.unusedVariables false

theorem pow_small (j : Nat) (h : j ≤ 19) : 1 ≤ 10 ^ j ∧ 10 ^ j ≤ 10000000000000000000 := by
  refine ⟨Nat.pow_pos (by omega), ?_⟩
  have : 10 ^ j ≤ 10 ^ 19 := Nat.pow_le_pow_right (by omega) h
  have e : (10 : Nat) ^ 19 = 10000000000000000000 := by decide
  omega

theorem pow_step (j : Nat) : 10 ^ j * 10 = 10 ^ (j + 1) := (Nat.pow_succ 10 j).symm

/-- The whole part's number of digits is one. -/
theorem Whole.unique {M d e : Nat} (h : Whole M d) (k : Whole M e) : d = e := by
  obtain ⟨h1, h2, h3⟩ := h
  obtain ⟨k1, k2, k3⟩ := k
  have mono : ∀ a b : Nat, 10 ^ a < 10 ^ b → a < b := fun a b hab => by
    by_cases hc : a < b
    · exact hc
    · have := Nat.pow_le_pow_right (n := 10) (by omega) (show b ≤ a by omega)
      omega
  have hle : d ≤ e := by
    rcases h3 with h3 | h3
    · omega
    · have := mono (d - 1) e (by omega); omega
  have hge : e ≤ d := by
    rcases k3 with k3 | k3
    · omega
    · have := mono (e - 1) d (by omega); omega
  omega

/-- Only the last k digits count. -/
theorem low_mod (m : Nat) : ∀ (j k : Nat), j ≤ k → low (m % 10 ^ k) j = low m j := by
  intro j k
  induction j with
  | zero => intro _; rfl
  | succ j ih =>
    intro h
    have e : m % 10 ^ k / 10 ^ j % 10 = m / 10 ^ j % 10 := by
      rw [show k = j + (k - j) from by omega, Nat.pow_add, Nat.mod_mul_right_div_self]
      apply Nat.mod_mod_of_dvd
      rw [show k - j = (k - j - 1) + 1 from by omega, Nat.pow_succ]
      exact Nat.dvd_mul_left _ _
    rw [low, low, ih (by omega), e]

theorem frac_eq (m P : Nat) (hP : 1 ≤ P) : m / P * P ≤ m ∧ m - m / P * P = m % P := by
  have h := Nat.div_add_mod m P
  have e : P * (m / P) = m / P * P := Nat.mul_comm _ _
  rw [e] at h
  omega

/-- What is left of v when its first j digits of 'width' are laid. -/
def left (v width j : Nat) : Nat := v % 10 ^ (width - j)

theorem left_zero (v width : Nat) (h : v < 10 ^ width) : left v width 0 = v := by
  unfold left
  rw [Nat.sub_zero, Nat.mod_eq_of_lt h]

/-- The next digit, and what is left behind it. -/
theorem left_step (v width j d r : Nat) (hj : j < width) (h : r + d * 10 ^ (width - 1 - j) = left v width j) (hr : r < 10 ^ (width - 1 - j)) :
    d = v / 10 ^ (width - 1 - j) % 10 ∧ r = left v width (j + 1) := by
  unfold left at *
  have hp : 0 < 10 ^ (width - 1 - j) := Nat.pow_pos (by omega)
  have e1 : 10 ^ (width - j) = 10 ^ (width - 1 - j) * 10 := by rw [pow_step]; congr 1; omega
  rw [e1] at h
  have hd : (v % (10 ^ (width - 1 - j) * 10)) / 10 ^ (width - 1 - j) = v / 10 ^ (width - 1 - j) % 10 := Nat.mod_mul_right_div_self _ _ _
  have hm : (v % (10 ^ (width - 1 - j) * 10)) % 10 ^ (width - 1 - j) = v % 10 ^ (width - 1 - j) := Nat.mod_mul_right_mod _ _ _
  rw [← h] at hd hm
  rw [Nat.add_mul_div_right _ _ hp, Nat.div_eq_of_lt hr, Nat.zero_add] at hd
  rw [Nat.add_mul_mod_self_right, Nat.mod_eq_of_lt hr] at hm
  refine ⟨hd, ?_⟩
  rw [hm]
  congr 2
  omega

theorem left_digit_small (v width j d r : Nat) (hj : j < width) (h : r + d * 10 ^ (width - 1 - j) = left v width j) : d ≤ 9 := by
  unfold left at h
  have hp : 0 < 10 ^ (width - 1 - j) := Nat.pow_pos (by omega)
  have e1 : 10 ^ (width - j) = 10 ^ (width - 1 - j) * 10 := by rw [pow_step]; congr 1; omega
  have hlt : v % 10 ^ (width - j) < 10 ^ (width - j) := Nat.mod_lt _ (Nat.pow_pos (by omega))
  rw [← h, e1] at hlt
  have : d * 10 ^ (width - 1 - j) < 10 * 10 ^ (width - 1 - j) := by omega
  have := Nat.lt_of_mul_lt_mul_right this
  omega

theorem low_take_succ (v width j : Nat) (hj : j < width) : (low v width).take (j + 1) = (low v width).take j ++ [((48 + v / 10 ^ (width - 1 - j) % 10 : Nat) : Int)] := by
  rw [List.take_add_one, low_getElem? _ _ _ hj]
  rfl

end Go.Proofs.Qxb6605562a
