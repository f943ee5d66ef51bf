/-
  'FnAppendDecimalReadsBack': the walk.
-/
import Derived.Test.Qxb6605562aShared
namespace Go.Proofs.Qxb6605562a
open Go.ChangeShapes Go.WideShapes Go.ChangeAt Go.RowKit
set_option linter.unusedVariables false

/-- What the two rows hold behind the call of appendDecimal. -/
structure Behind (w w3 : World) (ao2 : Option Addr) (g n L c : Nat) (ys ds : List Int) : Prop where
  below : Below w.heap.size w w3
  room : n + L ≤ c
  len : ys.length = n
  dlen : ds.length = L
  fore : ∀ j, j < n → w3.cell? ⟨g, j, none⟩ = some (.int .u8 (ys.getD j 0))
  back : ∀ j, j < L → w3.cell? ⟨g, n + j, none⟩ = some (.int .u8 (ds.getD j 0))
  old : ∀ j, j < n → ∃ g2, ao2 = some ⟨g2, 0, none⟩ ∧ w3.cell? ⟨g2, j, none⟩ = some (.int .u8 (ys.getD j 0))

theorem behind_mk {w w1 w2 w3 : World} {ao1 ao2 : Option Addr} {g c n : Nat} {ys ds : List Int} (hb1 : Below w.heap.size w w1) (hb2 : Below w1.heap.size w1 w2)
    (hown1 : w1.ownsRow w.heap.size 5 1 (.slice ao1 n n) n (U8 ys)) (hown2 : w2.ownsRow w1.heap.size 5 1 (.slice ao2 n n) n (U8 ys))
    (hown3 : w3.ownsRow w.heap.size 5 1 (.slice (some ⟨g, 0, none⟩) (n + ds.length) c) (n + ds.length) (U8 ys ++ U8 ds)) (hg : w2.grownBy w3 (Value.slice ao1 n n).ownBlock) :
    Behind w w3 ao2 g n ds.length c ys ds := by
  have hl : ys.length = n := by have := hown1.1; rw [U8_length] at this; omega
  have hk : (Value.slice ao2 n n).ownBlock = none ∨ (Value.slice ao2 n n).ownBlock ≠ (Value.slice ao1 n n).ownBlock := by
    by_cases h : (Value.slice ao2 n n).ownBlock = none
    · exact .inl h
    · right
      intro he
      obtain ⟨b2, h2⟩ := Option.ne_none_iff_exists'.1 h
      have l2 := hown2.lt b2 h2
      have l1 := hown1.lt b2 (by rw [← he]; exact h2)
      omega
  have hown2' := hown2.kept hg hk
  refine ⟨?_, ?_, hl, rfl, ?_, ?_, ?_⟩
  · have hb2' : Below w.heap.size w1 w2 := hb2.mono hb1.size
    refine (hb1.trans hb2').grown hg (by have := hb1.size; have := hb2.size; omega) (fun k hk => (hown1.lt k hk).1)
  · rcases hown3.2 with ⟨h1, _⟩ | ⟨g', c', cur, h1, _, _, h2, _⟩
    · cases h1
    · cases h1; exact h2
  · intro j hj
    rw [hown3.cellAt j (by omega), List.getElem?_append_left (by rw [U8_length]; omega), U8_get _ _ (by omega)]
  · intro j hj
    rw [hown3.cellAt (n + j) (by omega), List.getElem?_append_right (by rw [U8_length]; omega), U8_length, U8_get _ _ (by omega)]
    congr 2
    rw [hl, Nat.add_sub_cancel_left]
  · intro j hj
    obtain ⟨_, ⟨_, h0, _⟩ | ⟨x, rfl, hc⟩⟩ := View_of_owns hown2'
    · omega
    · rcases hown2'.2 with ⟨h1, h2⟩ | ⟨g2, c2, cur, h1, _⟩
      · omega
      · simp only [Value.slice.injEq, Option.some.injEq] at h1
        obtain ⟨rfl, -, -⟩ := h1
        exact ⟨g2, rfl, by have := hc j hj; rwa [Addr.add_lit, Nat.zero_add] at this⟩

set_option maxHeartbeats 400000 in
theorem reads_main (a0 : Option Addr) (len0 cap0 : Nat) (ys : List Int) (m k : Nat) (w : World) (hm : m < 18446744073709551616) (hk : k ≤ 15) (hl : len0 ≤ 1048576) (hv : View w a0 len0 cap0 ys) :
    Calls Try.prog 4 #[.slice a0 len0 cap0, .int .u64 m, .int .i64 k] w fun e w' => e = .returned (.bool true) ∧ Below w.heap.size w w' := by
  go_enter Try.func4, Try.ntmps4
  go_wp2_with fail
  refine (zz16 a0 len0 cap0 _ _ _ hl).mono ?_
  rintro e w' ⟨rfl, rfl⟩
  go_wp2_with fail
  refine (clone_any a0 len0 cap0 ys _ hl hv).mono ?_
  rintro e w1 ⟨ao1, rfl, hown1, hb1⟩
  go_wp2_with fail
  refine (clone_any ao1 len0 len0 ys w1 hl (View_of_owns hown1)).mono ?_
  rintro e w2 ⟨ao2, rfl, hown2, hb2⟩
  go_wp2_with fail
  refine (app_zz (.slice ao1 len0 len0) m k len0 (U8 ys) w2 _ hm hk (ownsRow_below hown1 hb2) hl (by have := hb1.size; have := hb2.size; omega)).mono ?_
  rintro e w3 ⟨g, c, d, rfl, hW, hown3, hg3⟩
  have hB := behind_mk hb1 hb2 hown1 hown2 hown3 hg3
  clear hown1 hown2 hown3 hg3 hb1 hb2 hv
  obtain ⟨hd1, hd2⟩ := hW.small hm hk
  obtain ⟨hL1, hL2⟩ := dec_length_le m k d
  have hrm := hB.room
  have hR0 := Rd.start hW
  obtain ⟨L, hL⟩ : ∃ L, (dec m k d).length = L := ⟨_, rfl⟩
  rw [hL] at hB hrm hL1 hL2 ⊢
  have HL : Hid ((dec m k d).length = L) := hL
  clear hL
  go_wp2
  go_loopw [9] (fun i wr => ∃ t : Nat, t ≤ len0 ∧ i = .int .i64 t ∧ ∃ q, wr = w3.drewN q) (fun i _ => len0 - (intOf i).toNat)
  case atStart => exact ⟨0, Nat.zero_le _, rfl, 0, rfl⟩
  case round =>
    obtain ⟨t, ht, rfl, q, rfl⟩ := hrel
    by_cases hlt : t < len0
    · have hf := hB.fore t hlt
      obtain ⟨g2, rfl, ho⟩ := hB.old t hlt
      generalize ys.getD t 0 = z at hf ho
      go_wp2
      go_quiet (fail)
      go_wp2
      go_roundw
      case rel => exact ⟨t + 1, by omega, by go_num, _, rfl⟩
      case measure => simp [intOf]; omega
    · go_wp2
      go_loop [11, 12, 13, 14, 15] (fun v wh fr sn i => ∃ (t v' wh' fr' : Nat) (sn' : Bool), t ≤ L ∧ v = .int .u64 v' ∧ wh = .int .i64 wh' ∧ fr = .int .i64 fr' ∧ sn = .bool sn' ∧ i = .int .i64 t ∧ Rd m k d t v' wh' fr' sn')
        (fun _ _ _ _ i => L - (intOf i).toNat)
      case atStart => exact ⟨0, 0, 0, 0, false, Nat.zero_le _, rfl, rfl, rfl, rfl, rfl, hR0⟩
      case round =>
        clear hR0
        obtain ⟨t2, v, wh, fr, sn, ht2, rfl, rfl, rfl, rfl, rfl, hR⟩ := hrel
        obtain ⟨b1, b2, b3⟩ := hR.bounds
        by_cases hlt2 : t2 < L
        · have hc := hB.back t2 hlt2
          rcases hR.cases (by rw [HL.out]; exact hlt2) with ⟨rfl, dg, hdg, hz, hle, hn⟩ | ⟨rfl, hz, hn⟩ | ⟨rfl, dg, hdg, hz, hle, hn⟩
          · rw [hz] at hc
            clear hz hR hB
            go_wp2
            go_round
            case rel => exact ⟨t2 + 1, v * 10 + dg, wh + 1, fr, false, by omega, by go_num, by go_num, rfl, rfl, by go_num, hn⟩
            case measure => simp [intOf]; omega
          · rw [hz] at hc
            clear hz hR hB
            go_wp2
            go_round
            case rel => exact ⟨t2 + 1, v, wh, fr, true, by omega, rfl, rfl, rfl, rfl, by go_num, hn⟩
            case measure => simp [intOf]; omega
          · rw [hz] at hc
            clear hz hR hB
            go_wp2
            go_round
            case rel => exact ⟨t2 + 1, v * 10 + dg, wh, fr + 1, true, by omega, by go_num, rfl, by go_num, rfl, by go_num, hn⟩
            case measure => simp [intOf]; omega
        · obtain rfl : t2 = L := by omega
          have hR' : Rd m k d (dec m k d).length v wh fr sn := by rw [HL.out]; exact hR
          obtain ⟨rfl, rfl, rfl, hs⟩ := hR'.done
          have hc := hB.back 0 (by omega)
          rw [Nat.add_zero] at hc
          have hbel := hB.below
          have h12 : wh ≤ 1 ∨ 2 ≤ wh := by omega
          clear hR hR'
          rcases h12 with h12 | h12
          · clear hc hB
            rcases hs with ⟨hk0, rfl⟩ | ⟨hk0, rfl⟩
            all_goals
              go_wp2
              go_ret
              exact ⟨rfl, below_drewN hbel _⟩
          · obtain ⟨z, hz1, hz2, hz⟩ := first_digit hW h12
            rw [hz] at hc
            have hzz : (48 + (z : Int) == 48) = false := by simp; omega
            clear hz hB
            rcases hs with ⟨hk0, rfl⟩ | ⟨hk0, rfl⟩
            all_goals
              go_wp2
              go_ret
              exact ⟨rfl, below_drewN hbel _⟩
end Go.Proofs.Qxb6605562a
