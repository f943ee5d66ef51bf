/-
  The plain mathematics of decimal digits: no Go in sight.
-/
namespace Go.Proofs.Qxb6605562a
set_option linter.unusedVariables false

/-- The last j decimal digits of m, the most significant first, as bytes. -/
def low (m : Nat) : Nat → List Int
  | 0 => []
  | j + 1 => ((48 + m / 10 ^ j % 10 : Nat) : Int) :: low m j

theorem low_length (m j : Nat) : (low m j).length = j := by
  induction j with
  | zero => rfl
  | succ j ih => simp [low, ih]

theorem low_getElem? (m : Nat) : ∀ (j t : Nat), t < j → (low m j)[t]? = some ((48 + m / 10 ^ (j - 1 - t) % 10 : Nat) : Int) := by
  intro j
  induction j with
  | zero => intro t h; omega
  | succ j ih =>
    intro t h
    cases t with
    | zero => simp [low]
    | succ t =>
      rw [low, List.getElem?_cons_succ, ih t (by omega), show j - 1 - t = j + 1 - 1 - (t + 1) from by omega]

/-- What stands behind the whole part: nothing, or a point and k digits. -/
def pt (m k : Nat) : List Int := if k = 0 then [] else 46 :: low m k

theorem pt_zero (m : Nat) : pt m 0 = [] := by simp [pt]
theorem pt_pos (m k : Nat) (h : 0 < k) : pt m k = 46 :: low m k := by simp [pt]; omega

/-- m / 10^k in decimal, its whole part in d digits. -/
def dec (m k d : Nat) : List Int := low (m / 10 ^ k) d ++ pt m k

theorem dec_length_zero (m d : Nat) : (dec m 0 d).length = d := by simp [dec, pt_zero, low_length]
theorem dec_length_pos (m k d : Nat) (h : 0 < k) : (dec m k d).length = d + 1 + k := by
  simp [dec, pt_pos m k h, low_length]; omega

theorem dec_whole (m k d t : Nat) (h : t < d) : (dec m k d)[t]? = some ((48 + m / 10 ^ k / 10 ^ (d - 1 - t) % 10 : Nat) : Int) := by
  rw [dec, List.getElem?_append_left (by rw [low_length]; exact h), low_getElem? _ _ _ h]
theorem dec_point (m k d : Nat) (h : 0 < k) : (dec m k d)[d]? = some 46 := by
  rw [dec, List.getElem?_append_right (by rw [low_length]; exact Nat.le_refl _), low_length, Nat.sub_self, pt_pos m k h]; rfl
theorem dec_frac (m k d f : Nat) (h : f < k) : (dec m k d)[d + 1 + f]? = some ((48 + m / 10 ^ (k - 1 - f) % 10 : Nat) : Int) := by
  rw [dec, List.getElem?_append_right (by rw [low_length]; omega), low_length, pt_pos m k (by omega), show d + 1 + f - d = f + 1 from by omega, List.getElem?_cons_succ, low_getElem? _ _ _ h]

theorem div_step (m j : Nat) : m / 10 ^ j / 10 = m / 10 ^ (j + 1) := by
  rw [Nat.div_div_eq_div_mul, Nat.pow_succ]

/-- One digit more is read. -/
theorem read_step (m j : Nat) : m / 10 ^ (j + 1) * 10 + m / 10 ^ j % 10 = m / 10 ^ j := by
  rw [← div_step]; omega

theorem div_le (m j : Nat) : m / 10 ^ j ≤ m := Nat.div_le_self _ _

/-- A number of 64 bits has no more than twenty digits. -/
theorem few_digits (m k j : Nat) (hm : m < 18446744073709551616) (h : m / 10 ^ k / 10 ^ j ≠ 0) : k + j < 20 := by
  rw [Nat.div_div_eq_div_mul, ← Nat.pow_add] at h
  by_cases hc : k + j < 20
  · exact hc
  · exfalso
    apply h
    apply Nat.div_eq_of_lt
    have h1 : 10 ^ 20 ≤ 10 ^ (k + j) := Nat.pow_le_pow_right (by omega) (by omega)
    have h2 : (18446744073709551616 : Nat) ≤ 10 ^ 20 := by decide
    omega

/-- The whole part is laid in d digits, no leading nought but a lone one. -/
def Whole (M d : Nat) : Prop := 1 ≤ d ∧ M < 10 ^ d ∧ (d = 1 ∨ 10 ^ (d - 1) ≤ M)

theorem Whole.small {m k d : Nat} (hm : m < 18446744073709551616) (hk : k ≤ 15) (h : Whole (m / 10 ^ k) d) : 1 ≤ d ∧ d + k ≤ 20 := by
  obtain ⟨h1, h2, h3⟩ := h
  refine ⟨h1, ?_⟩
  rcases h3 with h3 | h3
  · omega
  · have hp : 0 < 10 ^ (d - 1) := Nat.pow_pos (by omega)
    have : m / 10 ^ k / 10 ^ (d - 1) ≠ 0 := by
      have := (Nat.le_div_iff_mul_le hp (x := 1) (y := m / 10 ^ k)).2 (by omega)
      omega
    have := few_digits m k (d - 1) hm this
    omega

/-- How far the text has been read back: t of its bytes. -/
def Rd (m k d t v wh fr : Nat) (sn : Bool) : Prop :=
  (t ≤ d ∧ sn = false ∧ wh = t ∧ fr = 0 ∧ v = m / 10 ^ k / 10 ^ (d - t)) ∨
  (0 < k ∧ fr ≤ k ∧ t = d + 1 + fr ∧ sn = true ∧ wh = d ∧ v = m / 10 ^ (k - fr))

theorem Rd.start {m k d : Nat} (h : Whole (m / 10 ^ k) d) : Rd m k d 0 0 0 0 false := by
  refine .inl ⟨Nat.zero_le _, rfl, rfl, rfl, ?_⟩
  rw [Nat.sub_zero, Nat.div_eq_of_lt h.2.1]

theorem Rd.bounds {m k d t v wh fr : Nat} {sn : Bool} (h : Rd m k d t v wh fr sn) : wh ≤ d ∧ fr ≤ k ∧ v ≤ m := by
  rcases h with ⟨h1, _, rfl, rfl, rfl⟩ | ⟨h0, h1, _, _, rfl, rfl⟩
  · exact ⟨h1, Nat.zero_le _, Nat.le_trans (div_le _ _) (div_le _ _)⟩
  · exact ⟨Nat.le_refl _, h1, div_le _ _⟩

theorem Rd.cases {m k d t v wh fr : Nat} {sn : Bool} (h : Rd m k d t v wh fr sn) (ht : t < (dec m k d).length) :
    (sn = false ∧ ∃ dg : Nat, dg ≤ 9 ∧ (dec m k d).getD t 0 = 48 + (dg : Int) ∧ v * 10 + dg ≤ m ∧ Rd m k d (t + 1) (v * 10 + dg) (wh + 1) fr false) ∨
    (sn = false ∧ (dec m k d).getD t 0 = 46 ∧ Rd m k d (t + 1) v wh fr true) ∨
    (sn = true ∧ ∃ dg : Nat, dg ≤ 9 ∧ (dec m k d).getD t 0 = 48 + (dg : Int) ∧ v * 10 + dg ≤ m ∧ Rd m k d (t + 1) (v * 10 + dg) wh (fr + 1) true) := by
  rcases h with ⟨h1, rfl, rfl, rfl, rfl⟩ | ⟨h0, h1, rfl, rfl, rfl, rfl⟩
  · by_cases hd : wh < d
    · left
      have e := read_step (m / 10 ^ k) (d - 1 - wh)
      rw [show d - 1 - wh + 1 = d - wh from by omega] at e
      refine ⟨rfl, m / 10 ^ k / 10 ^ (d - 1 - wh) % 10, by omega, ?_, ?_, ?_⟩
      · rw [List.getD_eq_getElem?_getD, dec_whole _ _ _ _ hd]; simp
      · rw [e]; exact Nat.le_trans (div_le _ _) (div_le _ _)
      · refine .inl ⟨hd, rfl, rfl, rfl, ?_⟩
        rw [e, show d - (wh + 1) = d - 1 - wh from by omega]
    · obtain rfl : wh = d := by omega
      have hk : 0 < k := by
        by_cases hk : k = 0
        · subst hk; rw [dec_length_zero] at ht; omega
        · omega
      right; left
      refine ⟨rfl, ?_, .inr ⟨hk, Nat.zero_le _, by omega, rfl, rfl, ?_⟩⟩
      · rw [List.getD_eq_getElem?_getD, dec_point _ _ _ hk]; rfl
      · rw [Nat.sub_self, Nat.sub_zero, Nat.pow_zero, Nat.div_one]
  · right; right
    rw [dec_length_pos _ _ _ h0] at ht
    have e := read_step m (k - 1 - fr)
    rw [show k - 1 - fr + 1 = k - fr from by omega] at e
    refine ⟨rfl, m / 10 ^ (k - 1 - fr) % 10, by omega, ?_, ?_, ?_⟩
    · rw [List.getD_eq_getElem?_getD, dec_frac _ _ _ _ (by omega)]; simp
    · rw [e]; exact div_le _ _
    · refine .inr ⟨h0, by omega, by omega, rfl, rfl, ?_⟩
      rw [e, show k - (fr + 1) = k - 1 - fr from by omega]

theorem Rd.done {m k d v wh fr : Nat} {sn : Bool} (h : Rd m k d (dec m k d).length v wh fr sn) : v = m ∧ wh = d ∧ fr = k ∧ ((k ≤ 0 ∧ sn = false) ∨ (1 ≤ k ∧ sn = true)) := by
  by_cases hk : k = 0
  · subst hk
    rw [dec_length_zero] at h
    rcases h with ⟨h1, rfl, rfl, rfl, rfl⟩ | ⟨h0, _⟩
    · exact ⟨by simp, rfl, rfl, .inl ⟨Nat.le_refl _, rfl⟩⟩
    · omega
  · rw [dec_length_pos _ _ _ (by omega)] at h
    rcases h with ⟨h1, _⟩ | ⟨h0, h1, h2, rfl, rfl, rfl⟩
    · omega
    · obtain rfl : fr = k := by omega
      exact ⟨by simp, rfl, rfl, .inr ⟨by omega, rfl⟩⟩

theorem dec_length_le (m k d : Nat) : (dec m k d).length ≤ d + 1 + k ∧ d ≤ (dec m k d).length := by
  by_cases hk : k = 0
  · subst hk; rw [dec_length_zero]; omega
  · rw [dec_length_pos _ _ _ (by omega)]; omega

/-- No leading nought. -/
theorem first_digit {m k d : Nat} (h : Whole (m / 10 ^ k) d) (hd : 2 ≤ d) : ∃ z : Nat, 1 ≤ z ∧ z ≤ 9 ∧ (dec m k d).getD 0 0 = 48 + (z : Int) := by
  obtain ⟨h1, h2, h3⟩ := h
  have hp : 0 < 10 ^ (d - 1) := Nat.pow_pos (by omega)
  have e1 : 10 ^ d = 10 ^ (d - 1) * 10 := by rw [← Nat.pow_succ]; congr 1; omega
  have hlo : 1 ≤ m / 10 ^ k / 10 ^ (d - 1) := (Nat.le_div_iff_mul_le hp).2 (by omega)
  have hhi : m / 10 ^ k / 10 ^ (d - 1) < 10 := (Nat.div_lt_iff_lt_mul hp).2 (by rw [Nat.mul_comm, ← e1]; exact h2)
  refine ⟨m / 10 ^ k / 10 ^ (d - 1) % 10, by omega, by omega, ?_⟩
  rw [List.getD_eq_getElem?_getD, dec_whole _ _ _ _ (by omega)]; simp

end Go.Proofs.Qxb6605562a
