/-
  'FnStringEndMatchesParityModel': the walk.
-/
import Derived.Test.Qxb6606145aSEnd
import Derived.Test.Qxb6606145aRun
namespace Go.Proofs.Qxb6606145a
open Go.ChangeShapes Go.WideShapes Go.ChangeAt Go.RowKit
set_option linter.unusedVariables false

/-- An owned row that is not empty has an address; its cells. -/
theorem owns_cells {w : World} {base n : Nat} {ao : Option Addr} {ys : List Int} (h : w.ownsRow base 5 1 (.slice ao n n) n (U8 ys)) (hn : 0 < n) : ∃ g, ao = some ⟨g, 0, none⟩ ∧ ∀ j, j < n → w.cell? ⟨g, j, none⟩ = some (.int .u8 (ys.getD j 0)) := by
  obtain ⟨_, ⟨_, h0, _⟩ | ⟨x, rfl, hc⟩⟩ := View_of_owns h
  · omega
  · rcases h.2 with ⟨h1, h2⟩ | ⟨g2, c2, cur, h1, _⟩
    · omega
    · simp only [Value.slice.injEq, Option.some.injEq] at h1
      obtain ⟨rfl, -, -⟩ := h1
      exact ⟨g2, rfl, fun j hj => by have := hc j hj; rwa [Addr.add_lit, Nat.zero_add] at this⟩

theorem zz6 (a0 : Option Addr) (n0 c0 : Nat) (i : Int) (w : World) (hl : n0 ≤ 1048576) :
    Calls Try.prog 6 #[.slice a0 n0 c0, .int .i64 i] w fun e w' => e = .returned (.bool true) ∧ w' = w := by
  go_enter Try.func6, Try.ntmps6
  go_wp2
  go_ret
  exact ⟨rfl, rfl⟩

theorem ret_par {T c : Nat} (h : T = c) : Ending.returned (.bool ((c : Int) % 2 == 0)) = .returned (.bool (decide (T % 2 = 0))) := by
  subst h
  have : ((T : Int) % 2 == 0) = decide (T % 2 = 0) := by rw [Bool.eq_iff_iff]; simp; omega
  rw [this]

/-- No quote: it closes nothing. -/
theorem closes_noquote (g n cap i q : Nat) (ys : List Int) (w : World) (hn : n ≤ 2097152) (hq : q < n)
    (hc : w.cell? ⟨g, q, none⟩ = some (.int .u8 (ys.getD q 0))) (hz : ys.getD q 0 ≠ 34) :
    Calls Try.prog 13 #[.slice (some ⟨g, 0, none⟩) n cap, .int .i64 i, .int .i64 q] w fun e w' => e = .returned (.bool false) ∧ w' = w := by
  have hb : (ys.getD q 0 != 34) = true := by simpa using hz
  generalize ys.getD q 0 = z at hc hb
  clear hz
  go_enter Try.func13, Try.ntmps13
  go_wp2
  go_ret
  exact ⟨rfl, rfl⟩

set_option maxHeartbeats 400000 in
theorem closes_quote (g n cap i q : Nat) (ys : List Int) (w : World) (hn : n ≤ 2097152) (hq : q < n) (hi : i < q)
    (hc : ∀ j, j < n → w.cell? ⟨g, j, none⟩ = some (.int .u8 (ys.getD j 0))) (hz : ys.getD q 0 = 34) :
    Calls Try.prog 13 #[.slice (some ⟨g, 0, none⟩) n cap, .int .i64 i, .int .i64 q] w fun e w' => e = .returned (.bool (decide (run ys i q % 2 = 0))) ∧ w' = w := by
  have hcq := hc q hq
  rw [hz] at hcq
  have hrl := run_le ys i q
  obtain ⟨T, hT⟩ : ∃ T, run ys i q = T := ⟨_, rfl⟩
  have HT : Hid (run ys i q = T) := hT
  rw [hT] at hrl ⊢
  have HC : Hid (∀ j, j < n → w.cell? ⟨g, j, none⟩ = some (.int .u8 (ys.getD j 0))) := hc
  clear hz hT hc
  go_enter Try.func13, Try.ntmps13
  go_wp2
  go_loop [7, 8] (fun r x => ∃ c k : Nat, i ≤ k ∧ k < q ∧ c ≤ T ∧ r = .int .i64 c ∧ x = .int .i64 k ∧ Hid (c + run ys i (k + 1) = T)) (fun _ x => (intOf x).toNat)
  case atStart => exact ⟨0, q - 1, by omega, by omega, by omega, rfl, by go_num, by show 0 + run ys i (q - 1 + 1) = T; rw [show q - 1 + 1 = q from by omega, HT.out]; omega⟩
  case round =>
    clear hcq
    obtain ⟨c, k, hk1, hk2, hcT, rfl, rfl, HR⟩ := hrel
    have hck := HC.out k (by omega)
    by_cases h1 : i < k
    · have hI : (i : Int) < (k : Int) := by omega
      by_cases h2 : ys.getD k 0 = 92
      · have hr2 := HR.out
        rw [run_yes ys i k h1 h2] at hr2
        obtain ⟨k, rfl⟩ : ∃ k', k = k' + 1 := ⟨k - 1, by omega⟩
        rw [h2] at hck
        have HR2 : Hid (c + 1 + run ys i (k + 1) = T) := by show c + 1 + run ys i (k + 1) = T; omega
        have hc1 : c + 1 ≤ T := by omega
        clear hr2 HR h2
        go_wp2
        go_round
        case rel => exact ⟨c + 1, k, by omega, by omega, hc1, by go_num, by go_num, HR2⟩
        case measure => simp [intOf]
      · have hr2 := HR.out
        rw [run_no ys i k (fun h => h2 h.2)] at hr2
        have hb : (ys.getD k 0 == 92) = false := by simpa using h2
        generalize ys.getD k 0 = z at hck hb
        have HE : Hid (T = c) := by show T = c; omega
        clear hr2 HR h2
        go_wp2
        go_ret
        exact ⟨ret_par HE.out, rfl⟩
    · have hr2 := HR.out
      rw [run_no ys i k (by omega)] at hr2
      have HE : Hid (T = c) := by show T = c; omega
      have hI : decide ((i : Int) < (k : Int)) = false := decide_eq_false (by omega)
      clear hr2 HR hck
      go_wp2
      go_ret
      exact ⟨ret_par HE.out, rfl⟩

/-- closesString, at every place behind the opening quote. -/
theorem closes_any (g n cap i q : Nat) (ys : List Int) (w : World) (hn : n ≤ 2097152) (hq : q < n) (hi : i < q)
    (hc : ∀ j, j < n → w.cell? ⟨g, j, none⟩ = some (.int .u8 (ys.getD j 0))) (b : Bool) (hb : b = true ↔ ys.getD q 0 = 34 ∧ run ys i q % 2 = 0) :
    Calls Try.prog 13 #[.slice (some ⟨g, 0, none⟩) n cap, .int .i64 i, .int .i64 q] w fun e w' => e = .returned (.bool b) ∧ w' = w := by
  by_cases hz : ys.getD q 0 = 34
  · have e : b = decide (run ys i q % 2 = 0) := by
      rw [Bool.eq_iff_iff, hb]; simp only [decide_eq_true_eq]
      exact ⟨fun h => h.2, fun h => ⟨hz, h⟩⟩
    rw [e]
    exact closes_quote g n cap i q ys w hn hq hi hc hz
  · have e : b = false := by
      cases b with
      | true => exact absurd (hb.1 rfl).1 hz
      | false => rfl
    rw [e]
    exact closes_noquote g n cap i q ys w hn hq (hc q hq) hz

set_option maxHeartbeats 400000 in
theorem model_cells (g n cap i : Nat) (ys : List Int) (w : World) (hy : ys.length = n) (hn : n ≤ 2097152) (hi : i < n)
    (hc : ∀ j, j < n → w.cell? ⟨g, j, none⟩ = some (.int .u8 (ys.getD j 0))) :
    Calls Try.prog 9 #[.slice (some ⟨g, 0, none⟩) n cap, .int .i64 i] w fun e w' => e = .returned (.int .i64 (strEnd ys i : Nat)) ∧ w' = w := by
  have hM := Mod.start ys i (by omega)
  generalize strEnd ys i = R at hM
  have HC : Hid (∀ j, j < n → w.cell? ⟨g, j, none⟩ = some (.int .u8 (ys.getD j 0))) := hc
  subst hy
  clear hc
  go_enter Try.func9, Try.ntmps9
  go_wp2
  go_loop [5] (fun x => ∃ j : Nat, x = .int .i64 j ∧ j ≤ ys.length ∧ i < j ∧ Mod ys i R j) (fun x => ys.length - (intOf x).toNat)
  case atStart => exact ⟨i + 1, by go_num, by omega, by omega, hM⟩
  case round =>
    clear hM
    obtain ⟨j, rfl, hj1, hj2, hM⟩ := hrel
    by_cases hlt : j < ys.length
    · by_cases hcl : ys.getD j 0 = 34 ∧ run ys i j % 2 = 0
      · have q1 := closes_any g ys.length cap i j ys w hn hlt hj2 HC.out true (by simp only [true_iff]; exact hcl)
        have HR : Hid (R = j + 1) := hM.closes hlt hcl.1 hcl.2
        clear hcl hM
        go_wp2_with fail
        refine q1.mono ?_
        rintro e w1 ⟨rfl, rfl⟩
        clear q1
        go_wp2
        go_ret
        exact ⟨ret_int (by rw [HR.out]; simp), rfl⟩
      · have q1 := closes_any g ys.length cap i j ys w hn hlt hj2 HC.out false (by simp only [Bool.false_eq_true, false_iff]; exact hcl)
        have hN := hM.next hlt hcl
        clear hcl hM
        go_wp2_with fail
        refine q1.mono ?_
        rintro e w1 ⟨rfl, rfl⟩
        clear q1
        go_wp2
        go_round
        case rel => exact ⟨j + 1, by go_num, by omega, by omega, hN⟩
        case measure => simp [intOf]; omega
    · have HR : Hid (R = ys.length) := hM.past (by omega)
      clear hM
      go_wp2
      go_ret
      exact ⟨ret_int (by rw [HR.out]), rfl⟩

/-- The string opens at the very end, or nowhere. -/
theorem model_end (a : Option Addr) (n cap : Nat) (w : World) (hn : n ≤ 2097152) :
    Calls Try.prog 9 #[.slice a n cap, .int .i64 n] w fun e w' => e = .returned (.int .i64 n) ∧ w' = w := by
  go_enter Try.func9, Try.ntmps9
  go_wp2
  refine wp_loop_rounds 1 ?_
  rw [rounds_succ]
  go_wp2
  go_ret
  exact ⟨rfl, rfl⟩

theorem model_any {w : World} {base n : Nat} {ao : Option Addr} {ys : List Int} (h : w.ownsRow base 5 1 (.slice ao n n) n (U8 ys)) (i : Nat) (hn : n ≤ 2097152) (hi : i ≤ n) :
    Calls Try.prog 9 #[.slice ao n n, .int .i64 i] w fun e w' => e = .returned (.int .i64 (strEnd ys i : Nat)) ∧ w' = w := by
  have hy := (View_of_owns h).1
  by_cases hlt : i < n
  · obtain ⟨g, rfl, hc⟩ := owns_cells h (by omega)
    exact model_cells g n n i ys w hy hn hlt hc
  · obtain rfl : i = n := by omega
    rw [strEnd_out ys i (by omega), hy]
    exact model_end ao i i w hn

set_option maxHeartbeats 400000 in
theorem parity_main (a0 : Option Addr) (n c0 : Nat) (ys : List Int) (i : Nat) (w : World) (h0 : n ≤ 1048576) (hi : i ≤ n) (hv : View w a0 n c0 ys) :
    Calls Try.prog 3 #[.slice a0 n c0, .int .i64 i] w fun e w' => e = .returned (.bool true) ∧ Below w.heap.size w w' := by
  go_enter Try.func3, Try.ntmps3
  go_wp2_with fail
  refine (zz6 a0 n c0 _ _ h0).mono ?_
  rintro e w' ⟨rfl, rfl⟩
  go_wp2_with fail
  refine (clone_any a0 n c0 ys _ (by omega) hv).mono ?_
  rintro e w1 ⟨ao, rfl, hown, hb1⟩
  have q1 := sendz ao n n i ys w1 (by omega) (by omega) (View_of_owns hown)
  have q2 := model_any hown i (by omega) hi
  generalize strEnd ys i = R at q1 q2
  clear hv hown
  go_wp2_with fail
  refine q1.mono ?_
  rintro e w2 ⟨rfl, rfl⟩
  clear q1
  go_wp2_with fail
  refine q2.mono ?_
  rintro e w3 ⟨rfl, rfl⟩
  clear q2
  go_wp2
  go_ret
  exact ⟨rfl, hb1⟩
end Go.Proofs.Qxb6606145a
