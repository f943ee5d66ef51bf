/-
  'appendDecimal' by its contract.
-/
import Derived.Test.Qxb6605562aClone
import Derived.Test.Qxb6605562aDec
namespace Go.Proofs.Qxb6605562a
open Go.ChangeShapes Go.WideShapes Go.ChangeAt Go.RowKit
set_option linter.unusedVariables false

/-- The local array of 22 bytes: from place i on it holds 'tail'. -/
def Arr (w wr : World) (i : Nat) (tail : List Int) : Prop :=
  ∃ arr : List Int, arr.length = 22 ∧ arr.drop i = tail ∧ wr.ownsRow w.heap.size 37 1 (.slice (some ⟨w.heap.size, 0, none⟩) 22 22) 22 (U8 arr) ∧ Below w.heap.size w wr

theorem Arr.below {w wr : World} {i : Nat} {tail : List Int} (h : Arr w wr i tail) : Below w.heap.size w wr := by
  obtain ⟨_, _, _, _, h⟩ := h; exact h

theorem Arr.cell {w wr : World} {i : Nat} {tail : List Int} (h : Arr w wr i tail) (j : Nat) (hj : j < 22) : ∃ z, wr.cell? ⟨w.heap.size, j, none⟩ = some (.int .u8 z) := by
  obtain ⟨arr, hl, _, ho, _⟩ := h
  exact ⟨arr.getD j 0, by rw [ho.cellAt j (by omega), U8_get _ _ (by omega)]⟩

theorem Arr.free {w wr : World} {i : Nat} {tail : List Int} (h : Arr w wr i tail) (j : Nat) : wr.frozen? ⟨w.heap.size, j, none⟩ = false := by
  obtain ⟨arr, hl, _, ho, _⟩ := h
  exact ho.frozenAt j

theorem Arr.store {w wr : World} {i : Nat} {tail : List Int} (h : Arr w wr (i + 1) tail) (hi : i < 22) (z : Int) : Arr w (wr.setCell ⟨w.heap.size, i, none⟩ (.int .u8 z)) i (z :: tail) := by
  obtain ⟨arr, hl, ht, ho, hb⟩ := h
  have e : (U8 arr).set i (.int .u8 z) = U8 (arr.set i z) := by simp [U8]
  refine ⟨arr.set i z, by simpa using hl, ?_, by rw [← e]; exact (ho.stored i (.int .u8 z)).1, hb.setCell (p := ⟨w.heap.size, i, none⟩) (Nat.le_refl _) _⟩
  rw [← ht, List.drop_eq_getElem_cons (by simpa [hl] using hi), List.drop_set_of_lt (by omega)]
  simp

theorem Arr.news {w wr : World} {i : Nat} {tail : List Int} (h : Arr w wr i tail) : ∀ j u, (U8 tail)[j]? = some u → wr.cell? ((⟨w.heap.size, i, none⟩ : Addr).add j) = some u := by
  obtain ⟨arr, hl, rfl, ho, hb⟩ := h
  intro j u hu
  have hj : j < 22 - i := by
    have := (List.getElem?_eq_some_iff.1 hu).1
    simpa [U8, hl] using this
  rw [Addr.add_lit, ho.cellAt (i + j) (by omega), ← hu]
  simp [U8]

theorem Arr.tail_length {w wr : World} {i : Nat} {tail : List Int} (h : Arr w wr i tail) : tail.length = 22 - i := by
  obtain ⟨arr, hl, rfl, ho, hb⟩ := h
  simp [hl]

def zeros22 : Array Value := #[Value.int .u8 0, Value.int .u8 0, Value.int .u8 0, Value.int .u8 0, Value.int .u8 0, Value.int .u8 0, Value.int .u8 0, Value.int .u8 0, Value.int .u8 0, Value.int .u8 0, Value.int .u8 0, Value.int .u8 0, Value.int .u8 0, Value.int .u8 0, Value.int .u8 0, Value.int .u8 0, Value.int .u8 0, Value.int .u8 0, Value.int .u8 0, Value.int .u8 0, Value.int .u8 0, Value.int .u8 0]

theorem Arr.start (w : World) : Arr w (w.alloc (.cells zeros22 37)) 22 [] := by
  refine ⟨List.replicate 22 0, rfl, rfl, ?_, (Below.refl _ _).alloc (Nat.le_refl _) _⟩
  exact World.ownsRow_lit (e := 37) (size := 1) w zeros22 22 (Nat.le_refl _) (by unfold maxLen; omega) rfl

/-- What is owned stays owned where old memory is as it was. -/
theorem ownsRow_below {w w' : World} {base : Nat} {e : TypeId} {size : Nat} {v : Value} {n : Nat} {xs : List Value} (h : w.ownsRow base e size v n xs) (hb : Below w.heap.size w w') : w'.ownsRow base e size v n xs := by
  obtain ⟨h1, h2⟩ := h
  refine ⟨h1, ?_⟩
  rcases h2 with h2 | ⟨g, cap, cur, hv, hg, hh, r⟩
  · exact Or.inl h2
  · exact Or.inr ⟨g, cap, cur, hv, hg, by rw [hb.block g (Array.getElem?_eq_some_iff.1 hh).1]; exact hh, r⟩

theorem grownBy_behind {w w1 w2 : World} {row : Option Nat} (hb : Below w.heap.size w w1) (hg : w1.grownBy w2 row) : w.grownBy w2 row :=
  ⟨hg.os.trans hb.os, hg.tape.trans hb.tape, hg.output.trans hb.output, Nat.le_trans hb.size hg.size, fun k hk hr => (hg.block k (Nat.lt_of_lt_of_le hk hb.size) hr).trans (hb.block k hk)⟩

/-- The first loop's state: j digits of the fraction are laid. -/
def St1 (m : Nat) (w wr : World) (j i q : Nat) : Prop := i + j = 22 ∧ q = m / 10 ^ j ∧ Arr w wr i (low m j)
/-- The second loop's state: j digits of the whole part are laid ahead of 'back'. -/
def St2 (M : Nat) (back : List Int) (w wr : World) (j i q : Nat) : Prop := i + j + back.length = 22 ∧ q = M / 10 ^ j ∧ Arr w wr i (low M j ++ back) ∧ (j = 0 ∨ q ≠ 0)

theorem St1.step {m : Nat} {w wr : World} {j i q : Nat} (h : St1 m w wr j (i + 1) q) : St1 m w (wr.setCell ⟨w.heap.size, i, none⟩ (.int .u8 (48 + (q : Int) % 10))) (j + 1) i (q / 10) := by
  obtain ⟨h1, h2, h3⟩ := h
  subst h2
  refine ⟨by omega, div_step m j, ?_⟩
  have := h3.store (by omega) (48 + ((m / 10 ^ j : Nat) : Int) % 10)
  have e : (48 + ((m / 10 ^ j : Nat) : Int) % 10) = ((48 + m / 10 ^ j % 10 : Nat) : Int) := by omega
  rw [e] at this ⊢
  exact this

theorem St1.point {m k : Nat} {w wr : World} {i q : Nat} (hk : 0 < k) (h : St1 m w wr k (i + 1) q) : St2 (m / 10 ^ k) (pt m k) w (wr.setCell ⟨w.heap.size, i, none⟩ (.int .u8 46)) 0 i q := by
  obtain ⟨h1, h2, h3⟩ := h
  rw [pt_pos m k hk]
  refine ⟨by simp [low_length]; omega, by simpa using h2, ?_, .inl rfl⟩
  exact h3.store (by omega) 46

theorem St1.bare {m : Nat} {w wr : World} {i q : Nat} (h : St1 m w wr 0 i q) : St2 (m / 10 ^ 0) (pt m 0) w wr 0 i q := by
  obtain ⟨h1, h2, h3⟩ := h
  rw [pt_zero]
  exact ⟨by simpa using h1, by simpa using h2, by simpa [low] using h3, .inl rfl⟩

theorem St2.step {M : Nat} {back : List Int} {w wr : World} {j i q : Nat} (h : St2 M back w wr j (i + 1) q) (hq : q / 10 ≠ 0) : St2 M back w (wr.setCell ⟨w.heap.size, i, none⟩ (.int .u8 (48 + (q : Int) % 10))) (j + 1) i (q / 10) := by
  obtain ⟨h1, h2, h3, h4⟩ := h
  subst h2
  refine ⟨by omega, div_step M j, ?_, .inr hq⟩
  have := h3.store (by omega) (48 + ((M / 10 ^ j : Nat) : Int) % 10)
  have e : (48 + ((M / 10 ^ j : Nat) : Int) % 10) = ((48 + M / 10 ^ j % 10 : Nat) : Int) := by omega
  rw [e] at this ⊢
  exact this

theorem St2.last {M : Nat} {back : List Int} {w wr : World} {j i q : Nat} (h : St2 M back w wr j (i + 1) q) (hq : q / 10 = 0) :
    Arr w (wr.setCell ⟨w.heap.size, i, none⟩ (.int .u8 (48 + (q : Int) % 10))) i (low M (j + 1) ++ back) ∧ Whole M (j + 1) ∧ i + (j + 1) + back.length = 22 := by
  obtain ⟨h1, h2, h3, h4⟩ := h
  subst h2
  refine ⟨?_, ⟨by omega, ?_, ?_⟩, by omega⟩
  · have := h3.store (by omega) (48 + ((M / 10 ^ j : Nat) : Int) % 10)
    have e : (48 + ((M / 10 ^ j : Nat) : Int) % 10) = ((48 + M / 10 ^ j % 10 : Nat) : Int) := by omega
    rw [e] at this ⊢
    exact this
  · rw [div_step] at hq
    exact Nat.lt_of_div_eq_zero (Nat.pow_pos (by omega)) hq
  · rcases h4 with h4 | h4
    · left; omega
    · right
      rw [Nat.add_sub_cancel]
      by_cases hc : 10 ^ j ≤ M
      · exact hc
      · exact absurd (Nat.div_eq_of_lt (by omega)) h4

theorem St2.room {m k : Nat} {w wr : World} {j i q : Nat} (hm : m < 18446744073709551616) (hk : k ≤ 15) (h : St2 (m / 10 ^ k) (pt m k) w wr j i q) : 1 ≤ i := by
  obtain ⟨h1, h2, h3, h4⟩ := h
  have hp : (pt m k).length ≤ k + 1 := by
    unfold pt; split <;> simp [low_length]
  rcases h4 with h4 | h4
  · omega
  · rw [h2] at h4
    have := few_digits m k j hm h4
    omega

theorem finish {m k d n L : Nat} {xs : List Value} {base : Nat} {v v' : Value} {w w' : World} (h : w'.ownsRow base 5 1 v' (n + L) (xs ++ U8 (low (m / 10 ^ k) d ++ pt m k))) (hL : (low (m / 10 ^ k) d ++ pt m k).length = L)
    (hW : Whole (m / 10 ^ k) d) (h0 : 0 < L) (hg : w.grownBy w' v.ownBlock) :
    ∃ g c : Nat, v' = .slice (some ⟨g, 0, none⟩) (n + (dec m k d).length) c ∧ Whole (m / 10 ^ k) d ∧
      w'.ownsRow base 5 1 (.slice (some ⟨g, 0, none⟩) (n + (dec m k d).length) c) (n + (dec m k d).length) (xs ++ U8 (dec m k d)) ∧ w.grownBy w' v.ownBlock := by
  subst hL
  rcases h.2 with ⟨_, h2⟩ | ⟨g, c, cur, rfl, _⟩
  · omega
  · exact ⟨g, c, rfl, hW, h, hg⟩

theorem arr37 : Try.prog.arrayLen 37 = 22 := by kernel_rfl
theorem elem37 : Try.prog.elem 37 = 5 := by kernel_rfl
theorem under37 : Try.prog.underlying 37 = some (.array (Try.prog.arrayLen 37) (Try.prog.elem 37)) := by kernel_rfl
theorem size5 (w : World) : (Go.sizeOf 5).run Try.prog w = .ok 1 w := by kernel_rfl

/-- 'b[i:]' of the local array. -/
theorem slice37 (W : World) (b i : Nat) (hi : i < 22) : (Instr.sliceAt 37 (.pointer (some ⟨b, 0, none⟩)) (some (.int .i64 (i : Int))) none none).run Try.prog W = .ok (.slice (some ⟨b, i, none⟩) (22 - i) (22 - i)) W := by
  rw [run_sliceAt_array_l W 37 _ under37 .i64 (i : Int) (by omega) (by rw [arr37]; omega), elem37, size5, arr37]
  have : ¬ 22 = i := by omega
  simp only [Result.andThen, slicedAt, this, Addr.add_lit, Int.toNat_natCast, if_false, Nat.mul_one, Nat.zero_add]

set_option maxHeartbeats 400000 in
theorem app_dec (v : Value) (m k n : Nat) (xs : List Value) (w : World) (base : Nat) (hm : m < 18446744073709551616) (hk : k ≤ 15)
    (hown : w.ownsRow base 5 1 v n xs) (hn : n ≤ 1048576) (hbase : base ≤ w.heap.size) :
    Calls Try.prog 25 #[v, .int .u64 m, .int .i64 k] w fun e w' => ∃ (g c d : Nat), e = .returned (.slice (some ⟨g, 0, none⟩) (n + (dec m k d).length) c) ∧ Whole (m / 10 ^ k) d ∧
      w'.ownsRow base 5 1 (.slice (some ⟨g, 0, none⟩) (n + (dec m k d).length) c) (n + (dec m k d).length) (xs ++ U8 (dec m k d)) ∧ w.grownBy w' v.ownBlock := by
  have hA0 := Arr.start w
  unfold zeros22 at hA0
  obtain ⟨i0, hinf, hz0, hz1, hz2⟩ := info_parts info5
  go_enter Try.func25, Try.ntmps25
  go_wp2
  go_loopw [1, 8, 10] (fun mq ii c wr => ∃ j i q : Nat, j ≤ k ∧ i ≤ 22 ∧ mq = .int .u64 q ∧ ii = .int .i64 i ∧ c = .int .i64 j ∧ q < 18446744073709551616 ∧ St1 m w wr j i q)
    (fun _ _ c _ => k - (intOf c).toNat)
  case atStart => exact ⟨0, 22, m, Nat.zero_le _, Nat.le_refl _, rfl, rfl, rfl, hm, rfl, by simp, hA0⟩
  case round =>
    obtain ⟨j, i, q, hj, hi, rfl, rfl, rfl, hq, hs⟩ := hrel
    by_cases hlt : j < k
    · have hi1 : 1 ≤ i := by have := hs.1; omega
      obtain ⟨i, rfl⟩ : ∃ i', i = i' + 1 := ⟨i - 1, by omega⟩
      have hst := hs.step
      have hfz := hs.2.2.free i
      obtain ⟨zc, hcz⟩ := hs.2.2.cell i (by omega)
      clear hA0 hs
      go_wp2
      go_roundw
      case rel => exact ⟨j + 1, i, q / 10, by omega, by omega, by go_num, by go_num, by go_num, by omega, hst⟩
      case measure => simp [intOf]; omega
    · obtain rfl : j = k := by omega
      have h2 : 0 < j ∨ j ≤ 0 := by omega
      rcases h2 with hk0 | hk0
      have hi1 : 1 ≤ i := by have := hs.1; omega
      obtain ⟨i, rfl⟩ : ∃ i', i = i' + 1 := ⟨i - 1, by omega⟩
      have hst := hs.point hk0
      have hfz := hs.2.2.free i
      obtain ⟨zc, hcz⟩ := hs.2.2.cell i (by omega)
      clear hA0 hs
      rotate_left
      have hst : St2 (m / 10 ^ j) (pt m j) w wr 0 i q := by
        obtain rfl : j = 0 := by omega
        exact hs.bare
      clear hA0 hs
      go_wp2
      all_goals
        go_loopw [1, 8] (fun mq ii wr => ∃ j' i q : Nat, i ≤ 22 ∧ mq = .int .u64 q ∧ ii = .int .i64 i ∧ q < 18446744073709551616 ∧ St2 (m / 10 ^ j) (pt m j) w wr j' i q)
          (fun _ ii _ => (intOf ii).toNat)
        case atStart => exact ⟨0, i, q, by omega, rfl, rfl, hq, hst⟩
        case round =>
          clear hst
          obtain ⟨j', i', q', hi', rfl, rfl, hq', hs⟩ := hrel
          have hr := hs.room hm hk
          obtain ⟨i', rfl⟩ : ∃ i2, i' = i2 + 1 := ⟨i' - 1, by omega⟩
          have hfz := hs.2.2.1.free i'
          obtain ⟨zc, hcz⟩ := hs.2.2.1.cell i' (by omega)
          by_cases hd : q' / 10 = 0
          · have hst := hs.last hd
            have hq9 : q' ≤ 9 := by omega
            clear hd hs
            have hbl := hst.1.below
            have hsl := fun W => slice37 W w.heap.size i' (by omega)
            have hnw := hst.1.news
            have htl := hst.1.tail_length
            have hln : (U8 (low (m / 10 ^ j) (j' + 1) ++ pt m j)).length = (22 - i') * 1 := by rw [U8_length, htl, Nat.mul_one]
            have hml : n + (22 - i') ≤ maxLen := by unfold maxLen; omega
            go_wp2_with (at_builtin; refine wpList_append_own _ rfl (.tmp 41) (.tmp 43) 22 rfl base 5 i0 (.int .u8 0) 1 1 Try.underlying22 hinf hz0 hz1 hz2 rfl (by decide) v n xs rfl (ownsRow_below hown hbl) ⟨w.heap.size, i', none⟩ (22 - i') (22 - i') (U8 (low (m / 10 ^ j) (j' + 1) ++ pt m j)) rfl hln hnw (ints_oneCell _ _) hml (by omega) (Nat.le_trans hbase hbl.size) ?_; intro v' w' hown' hgrow hnil)
            clear hcz hfz hln hml hnw hsl hnil
            have hR := finish hown' (by rw [htl]) hst.2.1 (by omega) (grownBy_behind hbl hgrow)
            clear hown' hgrow
            go_ret
            obtain ⟨g, c, hv, hR⟩ := hR
            exact ⟨g, c, j' + 1, congrArg Ending.returned hv, hR⟩
          · have hst := hs.step hd
            have hq9 : 10 ≤ q' := by omega
            clear hd hs
            go_wp2
            go_roundw
            case rel => exact ⟨j' + 1, i', q' / 10, by omega, by go_num, by go_num, by omega, hst⟩
            case measure => simp [intOf]
end Go.Proofs.Qxb6605562a
