/-
  'stringEnd' by its contract.
-/
import Derived.Test.Qxb6606145aClone
import Derived.Test.Qxb6606145aScan
namespace Go.Proofs.Qxb6606145a
open Go.ChangeShapes Go.WideShapes Go.ChangeAt Go.RowKit
set_option linter.unusedVariables false

theorem ret_int {k : IntKind} {a b : Int} (h : a = b) : Ending.returned (.int k a) = .returned (.int k b) := by rw [h]

set_option maxHeartbeats 400000 in
theorem send_cells (b off n cap i : Nat) (ys : List Int) (w : World) (hy : ys.length = n) (hn : n ≤ 2097152) (hi : i ≤ 2097152)
    (hc : ∀ j, j < n → w.cell? ⟨b, off + j, none⟩ = some (.int .u8 (ys.getD j 0))) :
    Calls Try.prog 12 #[.slice (some ⟨b, off, none⟩) n cap, .int .i64 i] w fun e w' => e = .returned (.int .i64 (strEnd ys i : Nat)) ∧ w' = w := by
  have hA := At.start ys i
  generalize strEnd ys i = R at hA
  subst hy
  go_enter Try.func12, Try.ntmps12
  go_wp2
  go_loop [1] (fun x => ∃ t : Nat, t ≤ 2097155 ∧ x = .int .i64 t ∧ At ys R t) (fun x => 3000000 - (intOf x).toNat)
  case atStart => exact ⟨i + 1, by omega, by go_num, hA⟩
  case round =>
    clear hA
    obtain ⟨t, ht, rfl, hA⟩ := hrel
    by_cases hlt : t < ys.length
    · have hcell := hc t hlt
      have h3 : ys.getD t 0 = 92 ∨ ys.getD t 0 = 34 ∨ (ys.getD t 0 ≠ 34 ∧ ys.getD t 0 ≠ 92) := by omega
      rcases h3 with h3 | h3 | ⟨h3, h4⟩
      · have hN := hA.esc hlt h3
        rw [h3] at hcell
        clear hA hc h3
        go_wp2
        go_round
        case rel => exact ⟨t + 2, by omega, by go_num, hN⟩
        case measure => simp [intOf]; omega
      · have hN := hA.quote hlt h3
        rw [h3] at hcell
        clear hA hc h3
        have HN : Hid (R = t + 1) := hN
        clear hN
        go_wp2
        go_ret
        exact ⟨ret_int (by rw [HN.out]; simp), rfl⟩
      · have hN := hA.other hlt h3 h4
        have b1 : (ys.getD t 0 == 92) = false := by simpa using h4
        have b2 : (ys.getD t 0 == 34) = false := by simpa using h3
        generalize ys.getD t 0 = z at hcell b1 b2
        clear hA hc h3 h4
        go_wp2
        go_round
        case rel => exact ⟨t + 1, by omega, by go_num, hN⟩
        case measure => simp [intOf]; omega
    · have hN : Hid (R = ys.length) := hA.past (by omega)
      clear hA hc
      go_wp2
      go_ret
      exact ⟨ret_int (by rw [hN.out]), rfl⟩

set_option maxHeartbeats 400000 in
theorem send_empty (a : Option Addr) (cap i : Nat) (w : World) (hi : i ≤ 2097152) :
    Calls Try.prog 12 #[.slice a 0 cap, .int .i64 i] w fun e w' => e = .returned (.int .i64 0) ∧ w' = w := by
  go_enter Try.func12, Try.ntmps12
  go_wp2
  refine wp_loop_rounds 1 ?_
  rw [rounds_succ]
  go_wp2
  go_ret
  exact ⟨rfl, rfl⟩

theorem send_any (a : Option Addr) (n cap i : Nat) (ys : List Int) (w : World) (hn : n ≤ 2097152) (hi : i ≤ 2097152) (hv : View w a n cap ys) :
    Calls Try.prog 12 #[.slice a n cap, .int .i64 i] w fun e w' => e = .returned (.int .i64 (strEnd ys i : Nat)) ∧ w' = w := by
  obtain ⟨hy, hv⟩ := hv
  by_cases h0 : n = 0
  · subst h0
    have : strEnd ys i = 0 := by rw [strEnd_out ys i (by omega)]; exact hy
    rw [this]
    exact send_empty a cap i w hi
  · rcases hv with ⟨_, h, _⟩ | ⟨x, rfl, hc⟩
    · omega
    · obtain ⟨b, off, spot⟩ := x
      have hspot : spot = none := by simpa [Addr.add] using World.cell?_spot (hc 0 (by omega))
      subst hspot
      exact send_cells b off n cap i ys w hy hn hi (fun j hj => by rw [← Addr.add_lit]; exact hc j hj)

theorem sendz (a : Option Addr) (n cap i : Nat) (ys : List Int) (w : World) (hn : n ≤ 2097152) (hi : i ≤ 2097152) (hv : View w a n cap ys) :
    Calls Try.prog 8 #[.slice a n cap, .int .i64 i] w fun e w' => e = .returned (.int .i64 (strEnd ys i : Nat)) ∧ w' = w := by
  have h := send_any a n cap i ys w hn hi hv
  generalize strEnd ys i = R at h ⊢
  go_enter Try.func8, Try.ntmps8
  go_wp2_with fail
  refine h.mono ?_
  rintro e w' ⟨rfl, rfl⟩
  go_wp2
  go_ret
  exact ⟨rfl, rfl⟩

end Go.Proofs.Qxb6606145a
