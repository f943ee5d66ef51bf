/-
  'FnAppendDecimalMatchesSplitModel': the walk.
-/
import Derived.Test.Qxb6605562aModel
namespace Go.Proofs.Qxb6605562a
open Go.ChangeShapes Go.WideShapes Go.ChangeAt Go.RowKit
set_option linter.unusedVariables false

/-- What the two rows hold behind the call of appendDecimal. -/
structure Behind (w w3 : World) (ao2 : Option Addr) (g n L c : Nat) (ys ds : List Int) : Prop where
  below : Below w.heap.size w w3
  room : n + L ≤ c
  len : ys.length = n
  dlen : ds.length = L
  fore : ∀ j, j < n → w3.cell? ⟨g, j, none⟩ = some (.int .u8 (ys.getD j 0))
  back : ∀ j, j < L → w3.cell? ⟨g, n + j, none⟩ = some (.int .u8 (ds.getD j 0))
  old : ∀ j, j < n → ∃ g2, ao2 = some ⟨g2, 0, none⟩ ∧ w3.cell? ⟨g2, j, none⟩ = some (.int .u8 (ys.getD j 0))

theorem behind_mk {w w1 w2 w3 : World} {ao1 ao2 : Option Addr} {g c n : Nat} {ys ds : List Int} (hb1 : Below w.heap.size w w1) (hb2 : Below w1.heap.size w1 w2)
    (hown1 : w1.ownsRow w.heap.size 5 1 (.slice ao1 n n) n (U8 ys)) (hown2 : w2.ownsRow w1.heap.size 5 1 (.slice ao2 n n) n (U8 ys))
    (hown3 : w3.ownsRow w.heap.size 5 1 (.slice (some ⟨g, 0, none⟩) (n + ds.length) c) (n + ds.length) (U8 ys ++ U8 ds)) (hg : w2.grownBy w3 (Value.slice ao1 n n).ownBlock) :
    Behind w w3 ao2 g n ds.length c ys ds := by
  have hl : ys.length = n := by have := hown1.1; rw [U8_length] at this; omega
  have hk : (Value.slice ao2 n n).ownBlock = none ∨ (Value.slice ao2 n n).ownBlock ≠ (Value.slice ao1 n n).ownBlock := by
    by_cases h : (Value.slice ao2 n n).ownBlock = none
    · exact .inl h
    · right
      intro he
      obtain ⟨b2, h2⟩ := Option.ne_none_iff_exists'.1 h
      have l2 := hown2.lt b2 h2
      have l1 := hown1.lt b2 (by rw [← he]; exact h2)
      omega
  have hown2' := hown2.kept hg hk
  refine ⟨?_, ?_, hl, rfl, ?_, ?_, ?_⟩
  · have hb2' : Below w.heap.size w1 w2 := hb2.mono hb1.size
    refine (hb1.trans hb2').grown hg (by have := hb1.size; have := hb2.size; omega) (fun k hk => (hown1.lt k hk).1)
  · rcases hown3.2 with ⟨h1, _⟩ | ⟨g', c', cur, h1, _, _, h2, _⟩
    · cases h1
    · cases h1; exact h2
  · intro j hj
    rw [hown3.cellAt j (by omega), List.getElem?_append_left (by rw [U8_length]; omega), U8_get _ _ (by omega)]
  · intro j hj
    rw [hown3.cellAt (n + j) (by omega), List.getElem?_append_right (by rw [U8_length]; omega), U8_length, U8_get _ _ (by omega)]
    congr 2
    rw [hl, Nat.add_sub_cancel_left]
  · intro j hj
    obtain ⟨_, ⟨_, h0, _⟩ | ⟨x, rfl, hc⟩⟩ := View_of_owns hown2'
    · omega
    · rcases hown2'.2 with ⟨h1, h2⟩ | ⟨g2, c2, cur, h1, _⟩
      · omega
      · simp only [Value.slice.injEq, Option.some.injEq] at h1
        obtain ⟨rfl, -, -⟩ := h1
        exact ⟨g2, rfl, by have := hc j hj; rwa [Addr.add_lit, Nat.zero_add] at this⟩

/-- The wanted text so far: N bytes in a row of the law's own. -/
def Want (w3 wr : World) (cap N : Nat) (ts : List Int) : Prop :=
  wr.ownsRow w3.heap.size 5 1 (.slice (some ⟨w3.heap.size, 0, none⟩) N cap) N (U8 ts) ∧ Below w3.heap.size w3 wr

theorem Want.next {w3 wr w2 : World} {cap N : Nat} {ts : List Int} {z : Int} {o : Obj} (h : Want w3 wr cap N ts)
    (hown : w2.ownsRow w3.heap.size 5 1 (.slice (some ⟨w3.heap.size, 0, none⟩) (N + 1) cap) (N + 1) (U8 ts ++ [.int .u8 z])) (hg : (wr.alloc o).grownBy w2 (some w3.heap.size)) : Want w3 w2 cap (N + 1) (ts ++ [z]) := by
  refine ⟨by simpa [U8] using hown, ?_⟩
  exact (h.2.alloc h.2.size o).grown hg (by have := h.2.size; simp; omega) (fun k hk => by cases hk; exact Nat.le_refl _)

theorem Want.fixed {w3 wr w2 : World} {cap N : Nat} {ts ls : List Int} {wd : Nat} (h : Want w3 wr cap N ts)
    (hown : w2.ownsRow w3.heap.size 5 1 (.slice (some ⟨w3.heap.size, 0, none⟩) (N + wd) cap) (N + wd) (U8 ts ++ U8 ls)) (hg : wr.grownBy w2 (some w3.heap.size)) : Want w3 w2 cap (N + wd) (ts ++ ls) := by
  refine ⟨by simpa [U8] using hown, ?_⟩
  exact h.2.grown hg h.2.size (fun k hk => by cases hk; exact Nat.le_refl _)

theorem Want.cells {w3 wr : World} {cap N : Nat} {ts : List Int} (h : Want w3 wr cap N ts) (j : Nat) (hj : j < N) : wr.cell? ⟨w3.heap.size, j, none⟩ = some (.int .u8 (ts.getD j 0)) := by
  have hl : ts.length = N := by have := h.1.1; rw [U8_length] at this; omega
  rw [h.1.cellAt j (by omega), U8_get _ _ (by omega)]

/-- The row that appendDecimal handed back, later. -/
theorem Behind.later {w w3 wr : World} {ao2 : Option Addr} {g n L c : Nat} {ys ds : List Int} (h : Behind w w3 ao2 g n L c ys ds) (hb : Below w3.heap.size w3 wr) (j : Nat) (hj : j < n + L) : wr.cell? ⟨g, j, none⟩ = some (.int .u8 ((ys ++ ds).getD j 0)) := by
  have e : w3.cell? ⟨g, j, none⟩ = some (.int .u8 ((ys ++ ds).getD j 0)) := by
    by_cases hlt : j < n
    · rw [h.fore j hlt]
      have := h.len
      simp [List.getD, List.getElem?_append_left (show j < ys.length by omega)]
    · have hb := h.back (j - n) (by omega)
      rw [show n + (j - n) = j from by omega] at hb
      rw [hb]
      have := h.len
      simp [List.getD, List.getElem?_append_right (show ys.length ≤ j by omega), this]
  exact cell_later hb e

theorem fixed_int (base g n cap v : Nat) (vi : Int) (width : Nat) (xs : List Value) (w : World) (hvi : vi = (v : Int)) (hw1 : 1 ≤ width) (hw2 : width ≤ 20) (hv : v < 10 ^ width) (hv64 : v < 18446744073709551616) (hcap : n + width ≤ cap) (hn : n ≤ 2000000)
    (hown : w.ownsRow base 5 1 (.slice (some ⟨g, 0, none⟩) n cap) n xs) :
    Calls Try.prog 13 #[.slice (some ⟨g, 0, none⟩) n cap, .int .u64 vi, .int .i64 width] w fun e w' => e = .returned (.slice (some ⟨g, 0, none⟩) (n + width) cap) ∧
      w'.ownsRow base 5 1 (.slice (some ⟨g, 0, none⟩) (n + width) cap) (n + width) (xs ++ U8 (low v width)) ∧ w.grownBy w' (some g) := by
  subst hvi
  exact fixed_any base g n cap v width xs w hw1 hw2 hv hv64 hcap hn hown

theorem same_eq (g1 g2 n1 n2 c1 c2 : Nat) (zs : List Int) (w : World) (he : n1 = n2) (hn : n1 ≤ 9223372036854775807)
    (h1 : ∀ j, j < n1 → w.cell? ⟨g1, j, none⟩ = some (.int .u8 (zs.getD j 0))) (h2 : ∀ j, j < n2 → w.cell? ⟨g2, j, none⟩ = some (.int .u8 (zs.getD j 0))) :
    Calls Try.prog 15 #[.slice (some ⟨g1, 0, none⟩) n1 c1, .slice (some ⟨g2, 0, none⟩) n2 c2] w fun e w' => e = .returned (.bool true) ∧ ∃ q, w' = w.drewN q := by
  subst he
  exact same_any g1 g2 n1 c1 c2 zs w hn h1 h2

theorem zz9 (a : Option Addr) (len cap : Nat) (m k : Int) (w : World) (hl : len ≤ 1048576) :
    Calls Try.prog 9 #[.slice a len cap, .int .u64 m, .int .i64 k] w fun e w' => e = .returned (.bool true) ∧ w' = w := by
  go_enter Try.func9, Try.ntmps9
  go_wp2
  go_ret
  exact ⟨rfl, rfl⟩

set_option maxHeartbeats 800000 in
theorem split_main (a0 : Option Addr) (len0 cap0 : Nat) (ys : List Int) (m k : Nat) (w : World) (hm : m < 18446744073709551616) (hk : k ≤ 15) (hl : len0 ≤ 1048576) (hv : View w a0 len0 cap0 ys) :
    Calls Try.prog 3 #[.slice a0 len0 cap0, .int .u64 m, .int .i64 k] w fun e w' => e = .returned (.bool true) ∧ Below w.heap.size w w' := by
  obtain ⟨i0, hinf, hz0, hz1, hz2⟩ := info_parts info5
  go_enter Try.func3, Try.ntmps3
  go_wp2_with fail
  refine (zz9 a0 len0 cap0 _ _ _ hl).mono ?_
  rintro e w' ⟨rfl, rfl⟩
  go_wp2_with fail
  refine (clone_any a0 len0 cap0 ys _ hl hv).mono ?_
  rintro e w1 ⟨ao1, rfl, hown1, hb1⟩
  go_wp2_with fail
  refine (clone_any ao1 len0 len0 ys w1 hl (View_of_owns hown1)).mono ?_
  rintro e w2 ⟨ao2, rfl, hown2, hb2⟩
  go_wp2_with fail
  refine (app_zz (.slice ao1 len0 len0) m k len0 (U8 ys) w2 _ hm hk (ownsRow_below hown1 hb2) hl (by have := hb1.size; have := hb2.size; omega)).mono ?_
  rintro e w3 ⟨g, c, d, rfl, hW, hown3, hg3⟩
  have hB := behind_mk hb1 hb2 hown1 hown2 hown3 hg3
  clear hown1 hown2 hown3 hg3 hb1 hb2 hv
  obtain ⟨hd1, hd2⟩ := hW.small hm hk
  obtain ⟨L, hL⟩ : ∃ L, (dec m k d).length = L := ⟨_, rfl⟩
  rw [hL] at hB ⊢
  have HL : Hid ((dec m k d).length = L) := hL
  clear hL
  go_wp2_with fail
  refine (pow10_any k _ (by omega)).mono ?_
  rintro e w4 ⟨P, rfl, rfl, HP⟩
  have hP1 : 1 ≤ P := by rw [HP.out]; exact (pow_small k (by omega)).1
  have hP2 : P ≤ 10000000000000000000 := by rw [HP.out]; exact (pow_small k (by omega)).2
  obtain ⟨hT, hF⟩ := frac_eq m P hP1
  obtain ⟨Q, hQ⟩ : ∃ Q, m / P = Q := ⟨_, rfl⟩
  rw [hQ] at hT hF
  obtain ⟨T, hTe⟩ : ∃ T, Q * P = T := ⟨_, rfl⟩
  rw [hTe] at hT hF
  have q1 : (m : Int) / (P : Int) = (Q : Int) := by rw [← hQ]; omega
  have q2 : (Q : Int) * (P : Int) = (T : Int) := by rw [← hTe]; simp
  have HQ : Hid (m / P = Q) := hQ
  have HF : Hid (m - T = m % P) := hF
  have hQm : Q ≤ m := by rw [← hQ]; exact Nat.div_le_self _ _
  clear hQ hF hTe
  go_wp2_with (at_make; refine wpList_make_own _ rfl _ _ 22 rfl w4.heap.size 5 i0 (.int .u8 0) 1 Try.underlying22 hinf hz0 hz1 .i64 .i64 _ (len0 + 40) rfl rfl (by omega) ?c1 ?c2 ?c3 ?_)
  case c1 => rw [hz2]; omega
  case c2 => unfold maxLen; omega
  case c3 => exact Nat.le_refl _
  intro w5 hown hgrow
  have hw0 : Want w4 w5 (len0 + 40) 0 (ys.take 0) := ⟨hown, (Below.refl _ _).grown hgrow (Nat.le_refl _) (fun k h => by cases h)⟩
  clear hown hgrow
  go_wp2
  go_loopw [12, 13] (fun b i wr => ∃ t : Nat, t ≤ len0 ∧ i = .int .i64 t ∧ b = .slice (some ⟨w4.heap.size, 0, none⟩) t (len0 + 40) ∧ Want w4 wr (len0 + 40) t (ys.take t)) (fun _ i _ => len0 - (intOf i).toNat)
  case atStart => exact ⟨0, Nat.zero_le _, rfl, rfl, hw0⟩
  case round =>
    clear hw0
    obtain ⟨t, ht, rfl, rfl, hw⟩ := hrel
    by_cases hlt : t < len0
    · obtain ⟨g2, rfl, ho⟩ := hB.old t hlt
      have ho' := cell_later hw.2 ho
      have hcap : t + 1 ≤ len0 + 40 := by omega
      have htk : ys.take t ++ [ys.getD t 0] = ys.take (t + 1) := by
        have := hB.len
        rw [List.take_add_one]
        simp [List.getD, show t < ys.length by omega]
      generalize ys.getD t 0 = z at ho' htk
      clear ho
      have HTK : Hid (ys.take t ++ [z] = ys.take (t + 1)) := htk
      clear htk
      go_wp2_with (at_builtin; refine wpList_append_fits _ rfl (.tmp 56) (.tmp 61) 22 rfl w4.heap.size 5 i0 1 Try.underlying22 hinf hz1 w4.heap.size t (len0 + 40) (U8 (ys.take t)) rfl (hw.1.alloc _) ⟨wr.heap.size, 0, none⟩ 1 1 [_] rfl rfl (cell_one_new _ _ _) (one_cell _) hcap ?_; intro w6 hown2 hgrow2)
      have hN := hw.next hown2 hgrow2
      rw [HTK.out] at hN
      clear hown2 hgrow2 hw
      go_roundw
      case rel => exact ⟨t + 1, by omega, by go_num, rfl, hN⟩
      case measure => simp [intOf]; omega
    · obtain rfl : t = len0 := by omega
      rw [List.take_of_length_le (by have := hB.len; omega)] at hw
      go_wp2_with fail
      refine (count_any Q _ (by omega)).mono ?_
      rintro e w6 ⟨d', rfl, rfl, hW'⟩
      obtain rfl : d' = d := hW'.unique (by rw [← HQ.out, HP.out]; exact hW)
      go_wp2_with fail
      refine (fixed_any w4.heap.size w4.heap.size t (t + 40) Q d' (U8 ys) w6 hd1 (by omega) hW'.2.1 (by omega) (by omega) (by omega) hw.1).mono ?_
      rintro e w7 ⟨rfl, hown7, hg7⟩
      have hw7 := hw.fixed hown7 hg7
      clear hown7 hg7 hw hW'
      have hk2 : 1 ≤ k ∨ k ≤ 0 := by omega
      rcases hk2 with hk2 | hk2
      · have hcap : t + d' + 1 ≤ t + 40 := by omega
        go_wp2_with (at_builtin; refine wpList_append_fits _ rfl (.tmp 70) (.tmp 71) 22 rfl w4.heap.size 5 i0 1 Try.underlying22 hinf hz1 w4.heap.size (t + d') (t + 40) (U8 (ys ++ low Q d')) rfl (hw7.1.alloc _) ⟨w7.heap.size, 0, none⟩ 1 1 [_] rfl rfl (cell_one_new _ _ _) (one_cell _) hcap ?_; intro w8 hown8 hgrow8)
        have hw8 := hw7.next hown8 hgrow8
        clear hown8 hgrow8 hw7
        have hfr : m - T < 10 ^ k := by rw [HF.out, HP.out]; exact Nat.mod_lt _ (Nat.pow_pos (by omega))
        refine (fixed_int w4.heap.size w4.heap.size (t + d' + 1) (t + 40) (m - T) ((m : Int) - (T : Int)) k (U8 (ys ++ low Q d' ++ [46])) w8 (by omega) hk2 (by omega) hfr (by omega) (by omega) (by omega) hw8.1).mono ?_
        rintro e w9 ⟨rfl, hown9, hg9⟩
        have hw9 := hw8.fixed hown9 hg9
        clear hown9 hg9 hw8
        have HLe : Hid (L = d' + 1 + k) := by show L = d' + 1 + k; rw [← HL.out]; exact dec_length_pos m k d' hk2
        have htx : ys ++ low Q d' ++ [46] ++ low (m - T) k = ys ++ dec m k d' := by
          rw [HF.out, HP.out, low_mod m k k (Nat.le_refl _), dec, pt_pos m k hk2, ← HQ.out, HP.out]
          simp
        rw [htx] at hw9
        clear htx
        have hlat := fun j hj => hB.later hw9.2 j hj
        have hbl := hB.below
        have hwc := fun j hj => hw9.cells j hj
        have hb9 := hw9.2
        clear hB hw9
        go_wp2_with fail
        refine (same_eq g w4.heap.size (t + L) (t + d' + 1 + k) c (t + 40) (ys ++ dec m k d') w9 (by have := HLe.out; omega) (by have := HLe.out; omega) hlat hwc).mono ?_
        rintro e w10 ⟨rfl, q, rfl⟩
        go_wp2
        go_ret
        exact ⟨rfl, below_drewN (hbl.trans (hb9.mono hbl.size)) _⟩
      · have HLe : Hid (L = d') := by
          show L = d'
          obtain rfl : k = 0 := by omega
          rw [← HL.out]; exact dec_length_zero m d'
        have htx : ys ++ low Q d' = ys ++ dec m k d' := by
          have hQ := HQ.out
          have hP := HP.out
          obtain rfl : k = 0 := by omega
          rw [dec, pt_zero, ← hQ, hP]
          simp
        rw [htx] at hw7
        clear htx
        have hlat := fun j hj => hB.later hw7.2 j hj
        have hbl := hB.below
        have hwc := fun j hj => hw7.cells j hj
        have hb9 := hw7.2
        clear hB hw7
        go_wp2_with fail
        refine (same_eq g w4.heap.size (t + L) (t + d') c (t + 40) (ys ++ dec m k d') w7 (by have := HLe.out; omega) (by have := HLe.out; omega) hlat hwc).mono ?_
        rintro e w10 ⟨rfl, q, rfl⟩
        go_wp2
        go_ret
        exact ⟨rfl, below_drewN (hbl.trans (hb9.mono hbl.size)) _⟩
end Go.Proofs.Qxb6605562a
