/-
  'FnStringEndBoundedAndTruncates': the walk.
-/
import Derived.Test.Qxb6606145aSEnd
namespace Go.Proofs.Qxb6606145a
open Go.ChangeShapes Go.WideShapes Go.ChangeAt Go.RowKit
set_option linter.unusedVariables false

/-- An owned row that is not empty has an address; its cells. -/
theorem owns_cells {w : World} {base n : Nat} {ao : Option Addr} {ys : List Int} (h : w.ownsRow base 5 1 (.slice ao n n) n (U8 ys)) (hn : 0 < n) : ∃ g, ao = some ⟨g, 0, none⟩ ∧ ∀ j, j < n → w.cell? ⟨g, j, none⟩ = some (.int .u8 (ys.getD j 0)) := by
  obtain ⟨_, ⟨_, h0, _⟩ | ⟨x, rfl, hc⟩⟩ := View_of_owns h
  · omega
  · rcases h.2 with ⟨h1, h2⟩ | ⟨g2, c2, cur, h1, _⟩
    · omega
    · simp only [Value.slice.injEq, Option.some.injEq] at h1
      obtain ⟨rfl, -, -⟩ := h1
      exact ⟨g2, rfl, fun j hj => by have := hc j hj; rwa [Addr.add_lit, Nat.zero_add] at this⟩

theorem zz11 (a0 : Option Addr) (n0 c0 : Nat) (i k : Int) (w : World) (hl : n0 ≤ 1048576) :
    Calls Try.prog 11 #[.slice a0 n0 c0, .int .i64 i, .int .i64 k] w fun e w' => e = .returned (.bool true) ∧ w' = w := by
  go_enter Try.func11, Try.ntmps11
  go_wp2
  go_ret
  exact ⟨rfl, rfl⟩

/-- What the plain function says of this input. -/
theorem bound_facts (ys : List Int) (n i k : Nat) (hy : ys.length = n) (hi : i ≤ n) (hk : k ≤ n) :
    strEnd ys i ≤ n ∧ (i < n → i < strEnd ys i) ∧ (n ≤ i → strEnd ys i = n) ∧ (i < n → strEnd ys i < n → ys.getD (strEnd ys i - 1) 0 = 34) ∧ strEnd (ys.take k) i = min (strEnd ys i) k := by
  subst hy
  exact ⟨strEnd_le ys i, fun h => (strEnd_in ys i h).1, strEnd_out ys i, strEnd_quote ys i, strEnd_take ys i k hk hi⟩

set_option maxHeartbeats 800000 in
theorem bound_main (a0 : Option Addr) (n c0 : Nat) (ys : List Int) (i k : Nat) (w : World) (h0 : n ≤ 1048576) (hi : i ≤ n) (hk : k ≤ n) (hv : View w a0 n c0 ys) :
    Calls Try.prog 5 #[.slice a0 n c0, .int .i64 i, .int .i64 k] w fun e w' => e = .returned (.bool true) ∧ Below w.heap.size w w' := by
  obtain ⟨f1, f2, f3, f4, f5⟩ := bound_facts ys n i k hv.1 hi hk
  have hyl : Hid (ys.length = n) := hv.1
  go_enter Try.func5, Try.ntmps5
  go_wp2_with fail
  refine (zz11 a0 n c0 _ _ _ h0).mono ?_
  rintro e w' ⟨rfl, rfl⟩
  go_wp2_with fail
  refine (clone_any a0 n c0 ys _ (by omega) hv).mono ?_
  rintro e w1 ⟨ao, rfl, hown, hb1⟩
  have q1 := sendz ao n n i ys w1 (by omega) (by omega) (View_of_owns hown)
  clear hv
  by_cases hn : 0 < n
  · obtain ⟨g, rfl, hc⟩ := owns_cells hown hn
    have hv2 : View w1 (some ⟨g, 0, none⟩) k n (ys.take k) := ⟨by have := hyl.out; simp; omega, .inr ⟨_, rfl, fun j hj => by
      rw [Addr.add_lit, Nat.zero_add, hc j (by omega)]
      simp [List.getD, hj]⟩⟩
    have q2 := sendz (some ⟨g, 0, none⟩) k n i (ys.take k) w1 (by omega) (by omega) hv2
    generalize strEnd (ys.take k) i = R2 at q2 f5
    generalize strEnd ys i = R at q1 f1 f2 f3 f4 f5
    have hc1 : R < n → i < n → w1.cell? ⟨g, R - 1, none⟩ = some (.int .u8 34) := fun h h' => by rw [hc (R - 1) (by omega), f4 h' h]
    have H5 : Hid (R2 = min R k) := f5
    have hw6 : (i < n ∧ R < n ∧ i < R) ∨ (i < n ∧ n ≤ R ∧ i < R) ∨ (n ≤ i ∧ n ≤ R) := by
      by_cases h : i < n
      · have := f2 h; omega
      · have := f3 (by omega); omega
    have hkk : k < R ∨ R ≤ k := by omega
    clear hv2 hown hc f2 f3 f4 f5
    go_wp2_with fail
    refine q1.mono ?_
    rintro e w2 ⟨rfl, rfl⟩
    clear q1
    rcases hw6 with ⟨g1, g2, g3⟩ | ⟨g1, g2, g3⟩ | ⟨g1, g2⟩
    · have hcell := hc1 g2 g1
      clear hc1
      rcases hkk with hkk | hkk
      · have hte : ((R2 : Int) == (k : Int)) = true := by have := H5.out; simp; omega
        go_wp2_with fail
        refine q2.mono ?_
        rintro e w3 ⟨rfl, rfl⟩
        go_wp2
        go_ret
        exact ⟨rfl, hb1⟩
      · have hte : ((R2 : Int) == (R : Int)) = true := by have := H5.out; simp; omega
        go_wp2_with fail
        refine q2.mono ?_
        rintro e w3 ⟨rfl, rfl⟩
        go_wp2
        go_ret
        exact ⟨rfl, hb1⟩
    · have hd : decide ((R : Int) < (n : Int)) = false := decide_eq_false (by omega)
      clear hc1
      rcases hkk with hkk | hkk
      · have hte : ((R2 : Int) == (k : Int)) = true := by have := H5.out; simp; omega
        go_wp2_with fail
        refine q2.mono ?_
        rintro e w3 ⟨rfl, rfl⟩
        go_wp2
        go_ret
        exact ⟨rfl, hb1⟩
      · have hte : ((R2 : Int) == (R : Int)) = true := by have := H5.out; simp; omega
        go_wp2_with fail
        refine q2.mono ?_
        rintro e w3 ⟨rfl, rfl⟩
        go_wp2
        go_ret
        exact ⟨rfl, hb1⟩
    · clear hc1
      rcases hkk with hkk | hkk
      · have hte : ((R2 : Int) == (k : Int)) = true := by have := H5.out; simp; omega
        go_wp2_with fail
        refine q2.mono ?_
        rintro e w3 ⟨rfl, rfl⟩
        go_wp2
        go_ret
        exact ⟨rfl, hb1⟩
      · have hte : ((R2 : Int) == (R : Int)) = true := by have := H5.out; simp; omega
        go_wp2_with fail
        refine q2.mono ?_
        rintro e w3 ⟨rfl, rfl⟩
        go_wp2
        go_ret
        exact ⟨rfl, hb1⟩
  · obtain rfl : n = 0 := by omega
    obtain rfl : i = 0 := by omega
    obtain rfl : k = 0 := by omega
    have e0 : strEnd ys 0 = 0 := by have := f1; omega
    rw [e0] at q1
    have q2 := q1
    clear hown f1 f2 f3 f4 f5 e0
    go_wp2_with fail
    refine q1.mono ?_
    rintro e w2 ⟨rfl, rfl⟩
    clear q1
    go_wp2_with fail
    refine q2.mono ?_
    rintro e w3 ⟨rfl, rfl⟩
    go_wp2
    go_ret
    exact ⟨rfl, hb1⟩
end Go.Proofs.Qxb6606145a
