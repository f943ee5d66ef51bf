/-
  The model's functions by their contracts: pow10, digitCount, digitsFixed, sameBytes.
-/
import Derived.Test.Qxb6605562aShared
import Derived.Test.Qxb6605562aDec2
namespace Go.Proofs.Qxb6605562a
open Go.ChangeShapes Go.WideShapes Go.ChangeAt Go.RowKit
set_option linter.unusedVariables false

set_option maxHeartbeats 400000 in
theorem pow10_any (k : Nat) (w : World) (hk : k ≤ 19) :
    Calls Try.prog 12 #[.int .i64 k] w fun e w' => ∃ P : Nat, e = .returned (.int .u64 P) ∧ w' = w ∧ Hid (P = 10 ^ k) := by
  go_enter Try.func12, Try.ntmps12
  go_wp2
  go_loop [3, 4] (fun p i => ∃ j P : Nat, j ≤ k ∧ i = .int .i64 j ∧ p = .int .u64 P ∧ P ≤ 10000000000000000000 ∧ Hid (P = 10 ^ j)) (fun _ i => k - (intOf i).toNat)
  case atStart => exact ⟨0, 1, Nat.zero_le _, rfl, rfl, by omega, rfl⟩
  case round =>
    obtain ⟨j, P, hj, rfl, rfl, hP, HP⟩ := hrel
    by_cases hlt : j < k
    · have hn : P * 10 ≤ 10000000000000000000 := by rw [HP.out, pow_step]; exact (pow_small (j + 1) (by omega)).2
      go_wp2
      go_round
      case rel => exact ⟨j + 1, P * 10, by omega, by go_num, by go_num, hn, by show P * 10 = _; rw [HP.out, pow_step]⟩
      case measure => simp [intOf]; omega
    · obtain rfl : j = k := by omega
      go_wp2
      go_ret
      exact ⟨P, rfl, rfl, HP⟩

/-- The digits' number, counted up. -/
def Cnt (v n : Nat) (P : Int) : Prop := 1 ≤ n ∧ (n = 1 ∨ 10 ^ (n - 1) ≤ v) ∧ (n < 20 → P = ((10 ^ n : Nat) : Int))

set_option maxHeartbeats 400000 in
theorem count_any (v : Nat) (w : World) (hv : v < 18446744073709551616) :
    Calls Try.prog 14 #[.int .u64 v] w fun e w' => ∃ d : Nat, e = .returned (.int .i64 d) ∧ w' = w ∧ Whole v d := by
  go_enter Try.func14, Try.ntmps14
  go_wp2
  go_loop [3, 4] (fun n p => ∃ (j : Nat) (P : Int), j ≤ 20 ∧ n = .int .i64 j ∧ p = .int .u64 P ∧ Cnt v j P) (fun n _ => 20 - (intOf n).toNat)
  case atStart => exact ⟨1, 10, by omega, rfl, rfl, by omega, .inl rfl, fun _ => rfl⟩
  case round =>
    obtain ⟨j, P, hj, rfl, rfl, h1, h2, h3⟩ := hrel
    by_cases hlt : j < 20
    · obtain ⟨Q, hQ⟩ : ∃ Q : Nat, 10 ^ j = Q := ⟨_, rfl⟩
      have h3' := h3 hlt
      rw [hQ] at h3'
      subst h3'
      have hQs := pow_small j (by omega)
      rw [hQ] at hQs
      obtain ⟨q1, q2⟩ := hQs
      have HQ : Hid (10 ^ j = Q) := hQ
      have hd1 : decide ((j : Int) < 20) = true := decide_eq_true (by omega)
      clear hQ h3
      by_cases hge : Q ≤ v
      · have hd2 : decide ((Q : Int) ≤ (v : Int)) = true := decide_eq_true (by omega)
        have hn : Cnt v (j + 1) ((Q * 10 : Nat) : Int) := ⟨by omega, .inr (by rw [Nat.add_sub_cancel, HQ.out]; exact hge), fun h => by rw [← pow_step, HQ.out]⟩
        by_cases h19 : j < 19
        · have hq3 : Q * 10 ≤ 10000000000000000000 := by rw [← HQ.out, pow_step]; exact (pow_small (j + 1) (by omega)).2
          clear h2
          go_wp2
          go_round
          case rel => exact ⟨j + 1, _, by omega, by go_num, by go_num, hn⟩
          case measure => simp [intOf]; omega
        · have hn' : ∀ P, Cnt v (j + 1) P := fun P => ⟨hn.1, hn.2.1, fun h => by omega⟩
          clear h2
          go_wp2
          go_round
          case rel => exact ⟨j + 1, _, by omega, by go_num, rfl, hn' _⟩
          case measure => simp [intOf]; omega
      · have hd2 : decide ((Q : Int) ≤ (v : Int)) = false := decide_eq_false (by omega)
        have hW : Whole v j := ⟨h1, by rw [HQ.out]; omega, h2⟩
        clear h2
        go_wp2
        go_ret
        exact ⟨j, rfl, rfl, hW⟩
    · have hd1 : decide ((j : Int) < 20) = false := decide_eq_false (by omega)
      have hW : Whole v j := ⟨h1, by
        obtain rfl : j = 20 := by omega
        have : (18446744073709551616 : Nat) ≤ 10 ^ 20 := by decide
        omega, h2⟩
      clear h2 h3
      go_wp2
      go_ret
      exact ⟨j, rfl, rfl, hW⟩

set_option maxHeartbeats 400000 in
theorem same_any (g1 g2 n c1 c2 : Nat) (zs : List Int) (w : World) (hn : n ≤ 9223372036854775807)
    (h1 : ∀ j, j < n → w.cell? ⟨g1, j, none⟩ = some (.int .u8 (zs.getD j 0))) (h2 : ∀ j, j < n → w.cell? ⟨g2, j, none⟩ = some (.int .u8 (zs.getD j 0))) :
    Calls Try.prog 15 #[.slice (some ⟨g1, 0, none⟩) n c1, .slice (some ⟨g2, 0, none⟩) n c2] w fun e w' => e = .returned (.bool true) ∧ ∃ q, w' = w.drewN q := by
  go_enter Try.func15, Try.ntmps15
  go_wp2
  go_loopw [5] (fun i wr => ∃ t : Nat, t ≤ n ∧ i = .int .i64 t ∧ ∃ q, wr = w.drewN q) (fun i _ => n - (intOf i).toNat)
  case atStart => exact ⟨0, Nat.zero_le _, rfl, 0, rfl⟩
  case round =>
    obtain ⟨t, ht, rfl, q, rfl⟩ := hrel
    by_cases hlt : t < n
    · have hf := h1 t hlt
      have ho := h2 t hlt
      generalize zs.getD t 0 = z at hf ho
      clear h1 h2
      go_wp2
      go_quiet (fail)
      go_wp2
      go_roundw
      case rel => exact ⟨t + 1, by omega, by go_num, _, rfl⟩
      case measure => simp [intOf]; omega
    · go_wp2
      go_ret
      exact ⟨rfl, _, rfl⟩

theorem one_cell (z : Int) : ∀ u ∈ [Value.int .u8 z], u.oneCell' = true := by
  intro u hu
  simp at hu
  subst hu
  rfl

/-- How far digitsFixed has come: j digits of 'width' are laid behind xs. -/
structure Fx (w wr : World) (base g n cap v width : Nat) (xs : List Value) (j r : Nat) : Prop where
  owns : wr.ownsRow base 5 1 (.slice (some ⟨g, 0, none⟩) (n + j) cap) (n + j) (xs ++ U8 ((low v width).take j))
  grown : w.grownBy wr (some g)
  rest : r = left v width j

theorem Fx.next {w wr w2 : World} {base g n cap v width : Nat} {xs : List Value} {j r d r2 : Nat} {o : Obj} (h : Fx w wr base g n cap v width xs j r) (hj : j < width)
    (he : r2 + d * 10 ^ (width - 1 - j) = r) (hr : r2 < 10 ^ (width - 1 - j))
    (hown : w2.ownsRow base 5 1 (.slice (some ⟨g, 0, none⟩) (n + j + 1) cap) (n + j + 1) (xs ++ U8 ((low v width).take j) ++ [.int .u8 (48 + (d : Int))])) (hg : (wr.alloc o).grownBy w2 (some g)) :
    Fx w w2 base g n cap v width xs (j + 1) r2 := by
  have hr' := h.rest
  subst hr'
  obtain ⟨e1, e2⟩ := left_step v width j d r2 hj he hr
  refine ⟨?_, ?_, e2⟩
  · rw [low_take_succ v width j hj]
    have e : U8 ((low v width).take j ++ [((48 + v / 10 ^ (width - 1 - j) % 10 : Nat) : Int)]) = U8 ((low v width).take j) ++ [.int .u8 (48 + (d : Int))] := by
      rw [e1]; simp [U8]
    rw [e, ← List.append_assoc]
    exact hown
  · have h1 : wr.grownBy (wr.alloc o) (some g) := World.grownBy_alloc wr o (some g)
    refine ⟨?_, ?_, ?_, ?_, ?_⟩
    · exact hg.os.trans (h1.os.trans h.grown.os)
    · exact hg.tape.trans (h1.tape.trans h.grown.tape)
    · exact hg.output.trans (h1.output.trans h.grown.output)
    · exact Nat.le_trans h.grown.size (Nat.le_trans h1.size hg.size)
    · intro k hk hne
      have hs1 := h.grown.size
      have hs2 := h1.size
      exact (hg.block k (by omega) hne).trans ((h1.block k (by omega) hne).trans (h.grown.block k hk hne))

set_option maxHeartbeats 800000 in
theorem fixed_any (base g n cap v width : Nat) (xs : List Value) (w : World) (hw1 : 1 ≤ width) (hw2 : width ≤ 20) (hv : v < 10 ^ width) (hv64 : v < 18446744073709551616) (hcap : n + width ≤ cap) (hn : n ≤ 2000000)
    (hown : w.ownsRow base 5 1 (.slice (some ⟨g, 0, none⟩) n cap) n xs) :
    Calls Try.prog 13 #[.slice (some ⟨g, 0, none⟩) n cap, .int .u64 v, .int .i64 width] w fun e w' => e = .returned (.slice (some ⟨g, 0, none⟩) (n + width) cap) ∧
      w'.ownsRow base 5 1 (.slice (some ⟨g, 0, none⟩) (n + width) cap) (n + width) (xs ++ U8 (low v width)) ∧ w.grownBy w' (some g) := by
  obtain ⟨i0, hinf, hz0, hz1, hz2⟩ := info_parts info5
  obtain ⟨wd, rfl⟩ : ∃ wd, width = wd + 1 := ⟨width - 1, by omega⟩
  have hF0 : Fx w w base g n cap v (wd + 1) xs 0 v := ⟨by simpa [U8] using hown, World.grownBy.refl _ _, (left_zero _ _ hv).symm⟩
  clear hown hv
  go_enter Try.func13, Try.ntmps13
  go_wp2_with fail
  refine (pow10_any wd _ (by omega)).mono ?_
  rintro e w' ⟨P0, rfl, rfl, HP0⟩
  have hP0 : P0 ≤ 10000000000000000000 := by rw [HP0.out]; exact (pow_small wd (by omega)).2
  have hPP0 : Hid (0 < wd + 1 → P0 = 10 ^ (wd - 0)) := fun _ => HP0.out
  clear HP0
  go_wp2
  go_loopw [0, 1, 7, 8] (fun out vv p i wr => ∃ j r P : Nat, j ≤ wd + 1 ∧ out = .slice (some ⟨g, 0, none⟩) (n + j) cap ∧ vv = .int .u64 r ∧ p = .int .u64 P ∧ i = .int .i64 j ∧ r < 18446744073709551616 ∧ P ≤ 10000000000000000000 ∧
      Hid (j < wd + 1 → P = 10 ^ (wd - j)) ∧ Fx w' wr base g n cap v (wd + 1) xs j r)
    (fun _ _ _ i _ => wd + 1 - (intOf i).toNat)
  case atStart => exact ⟨0, v, P0, by omega, rfl, rfl, rfl, rfl, hv64, hP0, hPP0, hF0⟩
  case round =>
    clear hF0 hPP0
    obtain ⟨j, r, P, hj, rfl, rfl, rfl, rfl, hr, hP, HP, hF⟩ := hrel
    by_cases hlt : j < wd + 1
    · have hPe : Hid (P = 10 ^ (wd - j)) := HP.out hlt
      have hP1 : 1 ≤ P := by rw [hPe.out]; exact (pow_small _ (by omega)).1
      clear HP
      go_wp2
      go_loop [1, 9] (fun vv d => ∃ r2 dd : Nat, vv = .int .u64 r2 ∧ d = .int .u8 dd ∧ dd ≤ 9 ∧ r2 < 18446744073709551616 ∧ Hid (r2 + dd * P = r)) (fun vv _ => (intOf vv).toNat)
      case atStart => exact ⟨r, 0, rfl, rfl, by omega, hr, by show r + 0 * P = r; omega⟩
      case round =>
        obtain ⟨r2, dd, rfl, rfl, hdd, hr2, HE⟩ := hrel
        by_cases hge : P ≤ r2
        · have HE2 : Hid (r2 - P + (dd + 1) * P = r) := by
            have e := HE.out
            show r2 - P + (dd + 1) * P = r
            rw [Nat.add_mul, Nat.one_mul]; omega
          have hd9 : dd + 1 ≤ 9 := left_digit_small v (wd + 1) j (dd + 1) (r2 - P) hlt (by rw [← hF.rest, ← HE2.out, hPe.out]; rfl)
          clear HE hF
          go_wp2
          go_round
          case rel => exact ⟨r2 - P, dd + 1, by go_num, by go_num, hd9, by omega, HE2⟩
          case measure => simp [intOf]; omega
        · have hcp : n + j + 1 ≤ cap := by omega
          have hnx := fun o w2 => hF.next (w2 := w2) (o := o) (d := dd) (r2 := r2) hlt (by rw [← HE.out, hPe.out]; rfl) (by have := hPe.out; show r2 < 10 ^ (wd + 1 - 1 - j); rw [show wd + 1 - 1 - j = wd - j from by omega, ← this]; omega)
          have hown := hF.owns
          have hPn : Hid (j + 1 < wd + 1 → P / 10 = 10 ^ (wd - (j + 1))) := fun h => by
            rw [hPe.out, show wd - j = wd - (j + 1) + 1 from by omega, Nat.pow_succ, Nat.mul_div_cancel _ (by omega)]
          clear HE hF hPe
          go_wp2_with (at_builtin; refine wpList_append_fits _ rfl (.tmp 26) (.tmp 29) 22 rfl base 5 i0 1 Try.underlying22 hinf hz1 g (n + j) cap (xs ++ U8 ((low v (wd + 1)).take j)) rfl (hown.alloc _) ⟨wr.heap.size, 0, none⟩ 1 1 [_] rfl rfl (cell_one_new _ _ _) (one_cell _) hcp ?_; intro w2 hown2 hgrow2)
          have hN := hnx _ w2 hown2 hgrow2
          clear hown2 hgrow2 hown hnx
          go_roundw
          case rel => exact ⟨j + 1, r2, P / 10, by omega, rfl, rfl, by go_num, by go_num, hr2, by omega, hPn, hN⟩
          case measure => simp [intOf]; omega
    · obtain rfl : j = wd + 1 := by omega
      have hown := hF.owns
      have hgr := hF.grown
      rw [List.take_of_length_le (by rw [low_length]; exact Nat.le_refl _)] at hown
      clear hF HP
      go_wp2
      go_ret
      exact ⟨rfl, hown, hgr⟩

end Go.Proofs.Qxb6605562a
