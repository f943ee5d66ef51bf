/-
  The parity rule as plain mathematics: no Go in sight.
-/
import Derived.Test.Qxb6606145aScan
namespace Go.Proofs.Qxb6606145a
set_option linter.unusedVariables false

/-- How many backslashes stand directly before place q, behind place i. -/
def run (ys : List Int) (i : Nat) : Nat → Nat
  | 0 => 0
  | q + 1 => if i < q ∧ ys.getD q 0 = 92 then run ys i q + 1 else 0

theorem run_yes (ys : List Int) (i q : Nat) (h1 : i < q) (h2 : ys.getD q 0 = 92) : run ys i (q + 1) = run ys i q + 1 := by rw [run, if_pos ⟨h1, h2⟩]
theorem run_no (ys : List Int) (i q : Nat) (h : ¬ (i < q ∧ ys.getD q 0 = 92)) : run ys i (q + 1) = 0 := by rw [run, if_neg h]
theorem run_le (ys : List Int) (i q : Nat) : run ys i q ≤ q := by
  induction q with
  | zero => simp [run]
  | succ q ih =>
    rw [run]
    split <;> omega

/-- The model's loop at place j: R is the answer. -/
def Mod (ys : List Int) (i R j : Nat) : Prop := i < j ∧ j ≤ ys.length ∧ R = j + sc (decide (run ys i j % 2 = 1)) (ys.drop j)

theorem Mod.start (ys : List Int) (i : Nat) (h : i < ys.length) : Mod ys i (strEnd ys i) (i + 1) := by
  refine ⟨by omega, h, ?_⟩
  rw [run_no ys i i (by omega)]
  unfold strEnd
  rw [if_pos h]
  rfl

theorem Mod.closes {ys : List Int} {i R j : Nat} (h : Mod ys i R j) (hj : j < ys.length) (hc : ys.getD j 0 = 34) (hr : run ys i j % 2 = 0) : R = j + 1 := by
  obtain ⟨_, _, h⟩ := h
  rw [h, drop_at ys j hj, hc, hr]
  simp [sc]

theorem Mod.next {ys : List Int} {i R j : Nat} (h : Mod ys i R j) (hj : j < ys.length) (hn : ¬ (ys.getD j 0 = 34 ∧ run ys i j % 2 = 0)) : Mod ys i R (j + 1) := by
  obtain ⟨h1, _, h⟩ := h
  refine ⟨by omega, hj, ?_⟩
  rw [drop_at ys j hj, sc] at h
  have hb : decide (run ys i j % 2 = 1) = false ↔ run ys i j % 2 = 0 := by simp
  rw [if_neg (by rw [hb]; exact hn)] at h
  have e : (if ys.getD j 0 = 92 then !decide (run ys i j % 2 = 1) else false) = decide (run ys i (j + 1) % 2 = 1) := by
    by_cases hc : ys.getD j 0 = 92
    · rw [if_pos hc, run_yes ys i j h1 hc]
      rw [Bool.eq_iff_iff]
      simp
      omega
    · rw [if_neg hc, run_no ys i j (fun h => hc h.2)]
      simp
  rw [e] at h
  omega

theorem Mod.past {ys : List Int} {i R j : Nat} (h : Mod ys i R j) (hj : ys.length ≤ j) : R = ys.length := by
  obtain ⟨h1, h2, h⟩ := h
  rw [List.drop_eq_nil_of_le hj] at h
  simp [sc] at h
  omega

end Go.Proofs.Qxb6606145a
