/-
  Where a JSON string ends, as plain mathematics: no Go in sight.
-/
namespace Go.Proofs.Qxb6606145a
set_option linter.unusedVariables false

/-- How many bytes of l belong to the string (the closing quote with them); 'esc': the first byte is escaped. -/
def sc (esc : Bool) : List Int → Nat
  | [] => 0
  | c :: r => if c = 34 ∧ esc = false then 1 else 1 + sc (if c = 92 then !esc else false) r

theorem sc_quote (r : List Int) : sc false (34 :: r) = 1 := by simp [sc]
theorem sc_other (c : Int) (r : List Int) (h1 : c ≠ 34) (h2 : c ≠ 92) : sc false (c :: r) = 1 + sc false r := by simp [sc, h1, h2]
theorem sc_true (d : Int) (r : List Int) : sc true (d :: r) = 1 + sc false r := by
  by_cases h : d = 92 <;> simp [sc, h]
theorem sc_esc (r : List Int) : sc false (92 :: r) = 1 + sc true r := by simp [sc]

theorem sc_le : ∀ (l : List Int) (e : Bool), sc e l ≤ l.length := by
  intro l
  induction l with
  | nil => intro e; simp [sc]
  | cons c r ih =>
    intro e
    rw [sc]
    split
    · simp
    · have := ih (if c = 92 then !e else false)
      simp only [List.length_cons]; omega

theorem sc_end : ∀ (l : List Int) (e : Bool), sc e l < l.length → 1 ≤ sc e l ∧ l.getD (sc e l - 1) 0 = 34 := by
  intro l
  induction l with
  | nil => intro e h; simp at h
  | cons c r ih =>
    intro e h
    rw [sc] at h ⊢
    by_cases hc : c = 34 ∧ e = false
    · rw [if_pos hc]
      simp [hc.1]
    · rw [if_neg hc] at h ⊢
      simp only [List.length_cons] at h
      obtain ⟨h1, h2⟩ := ih (if c = 92 then !e else false) (by omega)
      generalize sc (if c = 92 then !e else false) r = s at h1 h2 ⊢
      refine ⟨by omega, ?_⟩
      obtain ⟨s, rfl⟩ : ∃ s', s = s' + 1 := ⟨s - 1, by omega⟩
      rw [show 1 + (s + 1) - 1 = s + 1 from by omega]
      simpa using h2

theorem sc_take : ∀ (l : List Int) (e : Bool) (j : Nat), sc e (l.take j) = min (sc e l) j := by
  intro l
  induction l with
  | nil => intro e j; simp [sc]
  | cons c r ih =>
    intro e j
    cases j with
    | zero => simp [sc]
    | succ j =>
      rw [List.take_succ_cons, sc, sc]
      by_cases hc : c = 34 ∧ e = false
      · rw [if_pos hc, if_pos hc]; omega
      · rw [if_neg hc, if_neg hc, ih]; omega

/-- One past the end of the string that opens at place i of ys. -/
def strEnd (ys : List Int) (i : Nat) : Nat := if i < ys.length then i + 1 + sc false (ys.drop (i + 1)) else ys.length

theorem strEnd_in (ys : List Int) (i : Nat) (h : i < ys.length) : i < strEnd ys i ∧ strEnd ys i ≤ ys.length := by
  unfold strEnd
  rw [if_pos h]
  have := sc_le (ys.drop (i + 1)) false
  simp at this
  omega

theorem strEnd_out (ys : List Int) (i : Nat) (h : ys.length ≤ i) : strEnd ys i = ys.length := by
  unfold strEnd
  rw [if_neg (by omega)]

theorem strEnd_le (ys : List Int) (i : Nat) : strEnd ys i ≤ ys.length := by
  by_cases h : i < ys.length
  · exact (strEnd_in ys i h).2
  · rw [strEnd_out ys i (by omega)]; exact Nat.le_refl _

/-- Below the end it follows a quote. -/
theorem strEnd_quote (ys : List Int) (i : Nat) (h : i < ys.length) (hr : strEnd ys i < ys.length) : ys.getD (strEnd ys i - 1) 0 = 34 := by
  unfold strEnd at *
  rw [if_pos h] at hr ⊢
  obtain ⟨h1, h2⟩ := sc_end (ys.drop (i + 1)) false (by simp; omega)
  rw [List.getD_eq_getElem?_getD, List.getElem?_drop, ← List.getD_eq_getElem?_getD] at h2
  rw [show i + 1 + sc false (ys.drop (i + 1)) - 1 = i + 1 + (sc false (ys.drop (i + 1)) - 1) from by omega]
  exact h2

/-- Cutting at k cuts the answer at k. -/
theorem strEnd_take (ys : List Int) (i k : Nat) (hk : k ≤ ys.length) (hi : i ≤ ys.length) : strEnd (ys.take k) i = min (strEnd ys i) k := by
  by_cases h : i < k
  · unfold strEnd
    rw [if_pos (by simp; omega), if_pos (by omega), List.drop_take, sc_take]
    omega
  · rw [strEnd_out (ys.take k) i (by simp; omega)]
    by_cases h2 : i < ys.length
    · have := strEnd_in ys i h2; simp; omega
    · rw [strEnd_out ys i (by omega)]; simp; omega

/-- What stands ahead does not matter. -/
theorem strEnd_shift (ps ys : List Int) (i : Nat) (hi : i ≤ ys.length) : strEnd (ps ++ ys) (ps.length + i) = ps.length + strEnd ys i := by
  unfold strEnd
  by_cases h : i < ys.length
  · rw [if_pos (by simp; omega), if_pos h, show ps.length + i + 1 = ps.length + (i + 1) from by omega, List.drop_append, List.drop_eq_nil_of_le (by omega), List.nil_append, Nat.add_sub_cancel_left]
    omega
  · rw [if_neg (by simp; omega), if_neg h]
    simp

/-- The scan at place t: it is still inside, or past the end. -/
def At (ys : List Int) (R t : Nat) : Prop := (t ≤ ys.length ∧ R = t + sc false (ys.drop t)) ∨ (ys.length < t ∧ R = ys.length)

theorem At.start (ys : List Int) (i : Nat) : At ys (strEnd ys i) (i + 1) := by
  by_cases h : i < ys.length
  · left; unfold strEnd; rw [if_pos h]; exact ⟨h, rfl⟩
  · right; exact ⟨by omega, strEnd_out ys i (by omega)⟩

theorem drop_at (ys : List Int) (t : Nat) (h : t < ys.length) : ys.drop t = ys.getD t 0 :: ys.drop (t + 1) := by
  rw [List.drop_eq_getElem_cons h]
  simp [List.getD, h]

theorem At.quote {ys : List Int} {R t : Nat} (h : At ys R t) (ht : t < ys.length) (hc : ys.getD t 0 = 34) : R = t + 1 := by
  rcases h with ⟨_, h⟩ | ⟨h, _⟩
  · rw [h, drop_at ys t ht, hc, sc_quote]
  · omega

theorem At.other {ys : List Int} {R t : Nat} (h : At ys R t) (ht : t < ys.length) (h1 : ys.getD t 0 ≠ 34) (h2 : ys.getD t 0 ≠ 92) : At ys R (t + 1) := by
  rcases h with ⟨_, h⟩ | ⟨h, _⟩
  · left
    refine ⟨ht, ?_⟩
    rw [h, drop_at ys t ht, sc_other _ _ h1 h2]
    omega
  · omega

theorem At.esc {ys : List Int} {R t : Nat} (h : At ys R t) (ht : t < ys.length) (hc : ys.getD t 0 = 92) : At ys R (t + 2) := by
  rcases h with ⟨_, h⟩ | ⟨h, _⟩
  · rw [drop_at ys t ht, hc, sc_esc] at h
    by_cases h2 : t + 1 < ys.length
    · left
      refine ⟨by omega, ?_⟩
      rw [drop_at ys (t + 1) h2, sc_true] at h
      rw [h, show t + 1 + 1 = t + 2 from rfl]; omega
    · right
      rw [List.drop_eq_nil_of_le (by omega)] at h
      refine ⟨by omega, ?_⟩
      simp [sc] at h
      omega
  · omega

theorem At.past {ys : List Int} {R t : Nat} (h : At ys R t) (ht : ys.length ≤ t) : R = ys.length := by
  rcases h with ⟨h1, h⟩ | ⟨_, h⟩
  · rw [List.drop_eq_nil_of_le ht] at h
    simp [sc] at h
    omega
  · exact h

end Go.Proofs.Qxb6606145a
