/-
  'FnStringEndShiftsWithPrefix': the walk.
-/
import Derived.Test.Qxb6606145aSEnd
namespace Go.Proofs.Qxb6606145a
open Go.ChangeShapes Go.WideShapes Go.ChangeAt Go.RowKit
set_option linter.unusedVariables false

theorem View.later {w w' : World} {a : Option Addr} {n cap : Nat} {ys : List Int} (h : View w a n cap ys) (hb : Below w.heap.size w w') : View w' a n cap ys := by
  obtain ⟨h1, h2 | ⟨x, rfl, hc⟩⟩ := h
  · exact ⟨h1, .inl h2⟩
  · exact ⟨h1, .inr ⟨x, rfl, fun i hi => cell_later hb (hc i hi)⟩⟩

/-- An owned row that is not empty has an address; its cells. -/
theorem owns_cells {w : World} {base n : Nat} {ao : Option Addr} {ys : List Int} (h : w.ownsRow base 5 1 (.slice ao n n) n (U8 ys)) (j : Nat) (hj : j < n) : ∃ g, ao = some ⟨g, 0, none⟩ ∧ w.cell? ⟨g, j, none⟩ = some (.int .u8 (ys.getD j 0)) := by
  obtain ⟨_, ⟨_, h0, _⟩ | ⟨x, rfl, hc⟩⟩ := View_of_owns h
  · omega
  · rcases h.2 with ⟨h1, h2⟩ | ⟨g2, c2, cur, h1, _⟩
    · omega
    · simp only [Value.slice.injEq, Option.some.injEq] at h1
      obtain ⟨rfl, -, -⟩ := h1
      exact ⟨g2, rfl, by have := hc j hj; rwa [Addr.add_lit, Nat.zero_add] at this⟩

theorem sendz_int (a : Option Addr) (n cap i : Nat) (x : Int) (ys : List Int) (w : World) (hx : x = (i : Int)) (hn : n ≤ 2097152) (hi : i ≤ 2097152) (hv : View w a n cap ys) :
    Calls Try.prog 8 #[.slice a n cap, .int .i64 x] w fun e w' => e = .returned (.int .i64 (strEnd ys i : Nat)) ∧ w' = w := by
  subst hx
  exact sendz a n cap i ys w hn hi hv

theorem zz10 (a0 a1 : Option Addr) (n0 c0 n1 c1 : Nat) (k : Int) (w : World) (hl : n0 + n1 ≤ 1048576) :
    Calls Try.prog 10 #[.slice a0 n0 c0, .slice a1 n1 c1, .int .i64 k] w fun e w' => e = .returned (.bool true) ∧ w' = w := by
  go_enter Try.func10, Try.ntmps10
  go_wp2
  go_ret
  exact ⟨rfl, rfl⟩

/-- The joined row so far: the first k bytes are laid. -/
def Join (w2 wr : World) (N k : Nat) (zs : List Int) : Prop :=
  wr.ownsRow w2.heap.size 5 1 (.slice (some ⟨w2.heap.size, 0, none⟩) N N) N (U8 (half zs N k)) ∧ Below w2.heap.size w2 wr

theorem Join.cell {w2 wr : World} {N k : Nat} {zs : List Int} (h : Join w2 wr N k zs) (hz : zs.length = N) (hk : k < N) : wr.cell? ⟨w2.heap.size, k, none⟩ = some (.int .u8 ((half zs N k).getD k 0)) := by
  rw [h.1.cellAt k (by omega), U8_get _ _ (by rw [half_length zs N k hz (by omega)]; exact hk)]

theorem Join.next {w2 wr : World} {N k : Nat} {zs : List Int} (h : Join w2 wr N k zs) (hz : zs.length = N) (hk : k < N) (z : Int) (he : zs.getD k 0 = z) : Join w2 (wr.setCell ⟨w2.heap.size, k, none⟩ (.int .u8 z)) N (k + 1) zs := by
  subst he
  have hst := (h.1.stored k (.int .u8 (zs.getD k 0))).1
  rw [half_step zs N k hz hk] at hst
  exact ⟨hst, h.2.setCell (p := ⟨w2.heap.size, k, none⟩) (Nat.le_refl _) _⟩

set_option maxHeartbeats 800000 in
theorem shift_main (a0 : Option Addr) (n0 c0 : Nat) (ps : List Int) (a1 : Option Addr) (n1 c1 : Nat) (ys : List Int) (i : Nat) (w : World) (h0 : n0 ≤ 524288) (h1 : n1 ≤ 524288) (hi : i ≤ n1)
    (hv0 : View w a0 n0 c0 ps) (hv1 : View w a1 n1 c1 ys) :
    Calls Try.prog 4 #[.slice a0 n0 c0, .slice a1 n1 c1, .int .i64 i] w fun e w' => e = .returned (.bool true) ∧ Below w.heap.size w w' := by
  obtain ⟨i0, hinf, hz0, hz1, hz2⟩ := info_parts info5
  have hp : ps.length = n0 := hv0.1
  have hy : ys.length = n1 := hv1.1
  have hzl : (ps ++ ys).length = n0 + n1 := by simp [hp, hy]
  have hsh := strEnd_shift ps ys i (by omega)
  rw [hp] at hsh
  have hR2 := strEnd_le ys i
  rw [hy] at hR2
  have HP : Hid (ps.length = n0) := hp
  have HY : Hid (ys.length = n1) := hy
  have HZ : Hid ((ps ++ ys).length = n0 + n1) := hzl
  clear hp hy hzl
  have hb1' : ∀ w1, Below w.heap.size w w1 → View w1 a1 n1 c1 ys := fun w1 hb => hv1.later hb
  go_enter Try.func4, Try.ntmps4
  go_wp2_with fail
  refine (zz10 a0 a1 n0 c0 n1 c1 _ _ (by omega)).mono ?_
  rintro e w' ⟨rfl, rfl⟩
  go_wp2_with fail
  refine (clone_any a0 n0 c0 ps _ (by omega) hv0).mono ?_
  rintro e w1 ⟨ao1, rfl, hown1, hb1⟩
  go_wp2_with fail
  refine (clone_any a1 n1 c1 ys w1 (by omega) (hb1' _ hb1)).mono ?_
  rintro e w2 ⟨ao2, rfl, hown2, hb2⟩
  have hown1' := ownsRow_below hown1 hb2
  have hbb : Below w'.heap.size w' w2 := hb1.trans (hb2.mono hb1.size)
  clear hown1 hb1 hb2 hb1' hv0 hv1
  go_wp2_with (at_make; refine wpList_make_full _ rfl _ _ 22 rfl w2.heap.size 5 i0 (.int .u8 0) 1 Try.underlying22 hinf hz0 hz1 .i64 .i64 _ _ (n0 + n1) rfl rfl (by omega) (by omega) ?c1 ?c2 ?c3 ?_)
  case c1 => rw [hz2]; omega
  case c2 => unfold maxLen; omega
  case c3 => exact Nat.le_refl _
  intro w3 hown3 hgrow
  rw [made_half (ps ++ ys) (n0 + n1)] at hown3
  have hJ0 : Join w2 w3 (n0 + n1) 0 (ps ++ ys) := ⟨hown3, (Below.refl _ _).grown hgrow (Nat.le_refl _) (fun k h => by cases h)⟩
  clear hown3 hgrow
  go_wp2
  go_loopw [8] (fun x wr => ∃ k : Nat, k ≤ n0 ∧ x = .int .i64 k ∧ Join w2 wr (n0 + n1) k (ps ++ ys)) (fun x _ => n0 - (intOf x).toNat)
  case atStart => exact ⟨0, Nat.zero_le _, rfl, hJ0⟩
  case round =>
    clear hJ0
    obtain ⟨k, hk, rfl, hJ⟩ := hrel
    by_cases hlt : k < n0
    · obtain ⟨g1, rfl, hc⟩ := owns_cells hown1' k hlt
      have hcx := cell_later hJ.2 hc
      have hcy := hJ.cell HZ.out (by omega)
      have hfy := hJ.1.frozenAt k
      have he : (ps ++ ys).getD k 0 = ps.getD k 0 := by
        have := HP.out
        simp [List.getD, List.getElem?_append_left (show k < ps.length by omega)]
      have hN := hJ.next HZ.out (by omega) _ he
      generalize ps.getD k 0 = z at hcx hN
      generalize (half (ps ++ ys) (n0 + n1) k).getD k 0 = z2 at hcy
      clear hc he hJ
      go_wp2
      go_roundw
      case rel => exact ⟨k + 1, by omega, by go_num, hN⟩
      case measure => simp [intOf]; omega
    · obtain rfl : k = n0 := by omega
      go_wp2
      go_loopw [9] (fun x wr => ∃ t : Nat, t ≤ n1 ∧ x = .int .i64 t ∧ Join w2 wr (k + n1) (k + t) (ps ++ ys)) (fun x _ => n1 - (intOf x).toNat)
      case atStart => exact ⟨0, Nat.zero_le _, rfl, hJ⟩
      case round =>
        clear hJ
        obtain ⟨t, ht, rfl, hJ⟩ := hrel
        by_cases hlt2 : t < n1
        · obtain ⟨g2, rfl, hc⟩ := owns_cells hown2 t hlt2
          have hcx := cell_later hJ.2 hc
          have hcy := hJ.cell HZ.out (by omega)
          have hfy := hJ.1.frozenAt (k + t)
          have he : (ps ++ ys).getD (k + t) 0 = ys.getD t 0 := by
            have := HP.out
            simp [List.getD, List.getElem?_append_right (show ps.length ≤ k + t by omega), this]
          have hN := hJ.next HZ.out (by omega) _ he
          generalize ys.getD t 0 = z at hcx hN
          generalize (half (ps ++ ys) (k + n1) (k + t)).getD (k + t) 0 = z2 at hcy
          clear hc he hJ
          go_wp2
          go_roundw
          case rel => exact ⟨t + 1, by omega, by go_num, hN⟩
          case measure => simp [intOf]; omega
        · obtain rfl : t = n1 := by omega
          have hJo := hJ.1
          rw [half_all _ _ HZ.out] at hJo
          have hbl := hbb.trans (hJ.2.mono hbb.size)
          have hvb := (View_of_owns hown2).later hJ.2
          clear hJ hown2 hown1' hbb
          have q1 := sendz_int (some ⟨w2.heap.size, 0, none⟩) (k + t) (k + t) (k + i) ((k : Int) + (i : Int)) (ps ++ ys) wr (by omega) (by omega) (by omega) (View_of_owns hJo)
          have q2 := sendz ao2 t t i ys wr (by omega) (by omega) hvb
          generalize strEnd (ps ++ ys) (k + i) = R1 at q1 hsh
          generalize strEnd ys i = R2 at q2 hsh hR2
          have hte : ((R1 : Int) == (k : Int) + (R2 : Int)) = true := by simp; omega
          clear hsh hJo hvb
          go_wp2_with fail
          refine q1.mono ?_
          rintro e w4 ⟨rfl, rfl⟩
          clear q1
          go_wp2_with fail
          refine q2.mono ?_
          rintro e w5 ⟨rfl, rfl⟩
          clear q2
          go_wp2
          go_ret
          exact ⟨rfl, hbl⟩
end Go.Proofs.Qxb6606145a
