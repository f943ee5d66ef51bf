/-
  'cloneBytes' by its contract: a fresh row that holds the same bytes; a nil slice stays nil.
-/
import Derived.Test.Qxb6606145aRows
import Derived.WalkKit
import Derived.ProofKit
import Derived.WalkSpells
import Derived.WalkLawsBesides
namespace Go.Proofs.Qxb6606145a
open Go.ChangeShapes Go.WideShapes Go.ChangeAt Go.RowKit
set_option linter.unusedVariables false

theorem info5 : (Try.prog.info? 5).map (fun i => (i.zero, i.size, i.bytes)) = some (some (.int .u8 0), 1, 1) := by kernel_rfl

/-- The cells of a row of bytes. -/
def U8 (l : List Int) : List Value := l.map (Value.int .u8)

theorem U8_length (l : List Int) : (U8 l).length = l.length := by simp [U8]
theorem U8_get (l : List Int) (j : Nat) (h : j < l.length) : (U8 l)[j]? = some (.int .u8 (l.getD j 0)) := by
  simp [U8, List.getD, h]

/-- The first k bytes copied, noughts behind. -/
def half (zs : List Int) (n k : Nat) : List Int := zs.take k ++ List.replicate (n - k) 0

theorem half_zero (zs : List Int) (n : Nat) : half zs n 0 = List.replicate n 0 := by simp [half]
theorem half_all (zs : List Int) (n : Nat) (h : zs.length = n) : half zs n n = zs := by simp [half, ← h]
theorem half_length (zs : List Int) (n k : Nat) (h : zs.length = n) (hk : k ≤ n) : (half zs n k).length = n := by simp [half]; omega

theorem half_step (zs : List Int) (n k : Nat) (h : zs.length = n) (hk : k < n) : (U8 (half zs n k)).set k (.int .u8 (zs.getD k 0)) = U8 (half zs n (k + 1)) := by
  unfold U8 half
  have e : List.replicate (n - k) (0 : Int) = 0 :: List.replicate (n - (k + 1)) 0 := by
    rw [show n - k = (n - (k + 1)) + 1 from by omega, List.replicate_succ]
  have hl : ((zs.take k).map (Value.int .u8)).length = k := by simp; omega
  rw [List.take_succ_eq_append_getElem (by omega), e, List.map_append, List.map_append, List.map_append, List.map_cons, List.set_append, if_neg (by omega), hl, Nat.sub_self, List.set_cons_zero]
  simp [List.getD, show k < zs.length by omega]

theorem made_half (zs : List Int) (n : Nat) : (madeCells #[Value.int .u8 0] n).toList = U8 (half zs n 0) := by
  rw [half_zero, toList_madeCells_one]
  simp [U8]

theorem clone_nil (w : World) : Calls Try.prog 7 #[.slice none 0 0] w fun e w' => e = .returned (.slice none 0 0) ∧ w' = w := by
  have q22 : ∀ (w : World) (a : Option Addr) (n c n' c' : Nat), (binOp .eql 22 (.slice a n c) (.slice none n' c')).run Try.prog w = .ok (.bool a.isNone) w := fun w a n c n' c' => Lib.run_eql_slice_nil w _ _ a n c n' c' Try.underlying22
  go_enter Try.func7, Try.ntmps7
  go_wp2
  go_ret
  exact ⟨rfl, rfl⟩

set_option maxHeartbeats 400000 in
theorem clone_cells (b off len cap : Nat) (zs : List Int) (w : World) (hz : zs.length = len) (hl : len ≤ 1048576)
    (hc : ∀ i, i < len → w.cell? ⟨b, off + i, none⟩ = some (.int .u8 (zs.getD i 0))) :
    Calls Try.prog 7 #[.slice (some ⟨b, off, none⟩) len cap] w fun e w' => e = .returned (.slice (some ⟨w.heap.size, 0, none⟩) len len) ∧
      w'.ownsRow w.heap.size 5 1 (.slice (some ⟨w.heap.size, 0, none⟩) len len) len (U8 zs) ∧ Below w.heap.size w w' := by
  have q22 : ∀ (w : World) (a : Option Addr) (n c n' c' : Nat), (binOp .eql 22 (.slice a n c) (.slice none n' c')).run Try.prog w = .ok (.bool a.isNone) w := fun w a n c n' c' => Lib.run_eql_slice_nil w _ _ a n c n' c' Try.underlying22
  obtain ⟨i0, hi, hz0, hz1, hz2⟩ := info_parts info5
  go_enter Try.func7, Try.ntmps7
  go_wp2_with (at_make; refine wpList_make_full _ rfl _ _ 22 rfl w.heap.size 5 i0 (.int .u8 0) 1 Try.underlying22 hi hz0 hz1 .i64 .i64 _ _ len rfl rfl rfl rfl ?c1 ?c2 ?c3 ?_)
  case c1 => rw [hz2]; omega
  case c2 => unfold maxLen; omega
  case c3 => simp
  intro w1 hown hgrow
  rw [made_half zs len] at hown
  have hb : Below w.heap.size w w1 := (Below.refl _ _).grown hgrow (Nat.le_refl _) (fun k h => by cases h)
  clear hgrow
  go_wp2
  go_loopw [4] (fun i wr => ∃ k : Nat, k ≤ len ∧ i = .int .i64 k ∧ wr.ownsRow w.heap.size 5 1 (.slice (some ⟨w.heap.size, 0, none⟩) len len) len (U8 (half zs len k)) ∧ Below w.heap.size w wr)
    (fun i _ => len - (intOf i).toNat)
  case atStart => exact ⟨0, Nat.zero_le _, rfl, hown, hb⟩
  case round =>
    obtain ⟨k, hk, rfl, hw, hbl⟩ := hrel
    by_cases hlt : k < len
    · have hs := half_step zs len k hz hlt
      have hcx : wr.cell? ⟨b, off + k, none⟩ = some (.int .u8 (zs.getD k 0)) := (hbl.cell (World.block_lt_of_cell? _ _ (hc k hlt))).trans (hc k hlt)
      generalize zs.getD k 0 = z at hs hcx
      have hcy : wr.cell? ⟨w.heap.size, k, none⟩ = some (.int .u8 ((half zs len k).getD k 0)) := by
        rw [hw.cellAt k (by omega), U8_get _ _ (by rw [half_length zs len k hz hk]; exact hlt)]
      have hfy := hw.frozenAt k
      have hst := hw.stored k (.int .u8 z)
      rw [hs] at hst
      have HS : Hid _ := hst
      have hbs : Hid _ := hbl.setCell (p := ⟨w.heap.size, k, none⟩) (Nat.le_refl _) (.int .u8 z)
      clear hst hw hbl hs
      go_wp2
      go_roundw
      case rel => exact ⟨k + 1, by omega, by go_num, HS.out.1, hbs.out⟩
      case measure => simp [intOf]; omega
    · have he : k = len := by omega
      subst he
      rw [half_all zs k hz] at hw
      go_wp2
      go_ret
      exact ⟨rfl, hw, hbl⟩
/-- What is owned stays owned where old memory is as it was. -/
theorem ownsRow_below {w w' : World} {base : Nat} {e : TypeId} {size : Nat} {v : Value} {n : Nat} {xs : List Value} (h : w.ownsRow base e size v n xs) (hb : Below w.heap.size w w') : w'.ownsRow base e size v n xs := by
  obtain ⟨h1, h2⟩ := h
  refine ⟨h1, ?_⟩
  rcases h2 with h2 | ⟨g, cap, cur, hv, hg, hh, r⟩
  · exact Or.inl h2
  · exact Or.inr ⟨g, cap, cur, hv, hg, by rw [hb.block g (Array.getElem?_eq_some_iff.1 hh).1]; exact hh, r⟩

theorem grownBy_behind {w w1 w2 : World} {row : Option Nat} (hb : Below w.heap.size w w1) (hg : w1.grownBy w2 row) : w.grownBy w2 row :=
  ⟨hg.os.trans hb.os, hg.tape.trans hb.tape, hg.output.trans hb.output, Nat.le_trans hb.size hg.size, fun k hk hr => (hg.block k (Nat.lt_of_lt_of_le hk hb.size) hr).trans (hb.block k hk)⟩

/-- A slice of bytes that is read: nil, or its elements lie in memory. -/
def View (w : World) (a : Option Addr) (len cap : Nat) (ys : List Int) : Prop :=
  ys.length = len ∧ ((a = none ∧ len = 0 ∧ cap = 0) ∨ ∃ x, a = some x ∧ ∀ i, i < len → w.cell? (x.add i) = some (.int .u8 (ys.getD i 0)))

set_option maxHeartbeats 400000 in
theorem clone_empty (x : Addr) (cap : Nat) (w : World) :
    Calls Try.prog 7 #[.slice (some x) 0 cap] w fun e w' => e = .returned (.slice (some ⟨w.heap.size, 0, none⟩) 0 0) ∧
      w'.ownsRow w.heap.size 5 1 (.slice (some ⟨w.heap.size, 0, none⟩) 0 0) 0 [] ∧ Below w.heap.size w w' := by
  have q22 : ∀ (w : World) (a : Option Addr) (n c n' c' : Nat), (binOp .eql 22 (.slice a n c) (.slice none n' c')).run Try.prog w = .ok (.bool a.isNone) w := fun w a n c n' c' => Lib.run_eql_slice_nil w _ _ a n c n' c' Try.underlying22
  obtain ⟨i0, hi, hz0, hz1, hz2⟩ := info_parts info5
  go_enter Try.func7, Try.ntmps7
  go_wp2_with (at_make; refine wpList_make_full _ rfl _ _ 22 rfl w.heap.size 5 i0 (.int .u8 0) 1 Try.underlying22 hi hz0 hz1 .i64 .i64 _ _ 0 rfl rfl rfl rfl ?c1 ?c2 ?c3 ?_)
  case c1 => rw [hz2]; omega
  case c2 => unfold maxLen; omega
  case c3 => simp
  intro w1 hown hgrow
  rw [made_half [] 0] at hown
  have hb : Below w.heap.size w w1 := (Below.refl _ _).grown hgrow (Nat.le_refl _) (fun k h => by cases h)
  clear hgrow
  go_wp2
  refine wp_loop_rounds 1 ?_
  rw [rounds_succ]
  go_wp2
  go_ret
  exact ⟨rfl, hown, hb⟩

theorem clone_any (a : Option Addr) (len cap : Nat) (ys : List Int) (w : World) (hl : len ≤ 1048576) (hv : View w a len cap ys) :
    Calls Try.prog 7 #[.slice a len cap] w fun e w' => ∃ ao, e = .returned (.slice ao len len) ∧
      w'.ownsRow w.heap.size 5 1 (.slice ao len len) len (U8 ys) ∧ Below w.heap.size w w' := by
  obtain ⟨hy, ⟨rfl, rfl, rfl⟩ | ⟨x, rfl, hc⟩⟩ := hv
  · refine (clone_nil w).mono ?_
    rintro e w' ⟨rfl, rfl⟩
    obtain rfl := List.eq_nil_of_length_eq_zero hy
    exact ⟨none, rfl, World.ownsRow_nil _ _ _ _, Below.refl _ _⟩
  · by_cases h0 : len = 0
    · subst h0
      refine (clone_empty x cap w).mono ?_
      rintro e w' ⟨rfl, h1, h2⟩
      obtain rfl := List.eq_nil_of_length_eq_zero hy
      exact ⟨_, rfl, h1, h2⟩
    · obtain ⟨b, off, spot⟩ := x
      have hspot : spot = none := by simpa [Addr.add] using World.cell?_spot (hc 0 (by omega))
      subst hspot
      refine (clone_cells b off len cap ys w hy hl (fun i hi => by rw [← Addr.add_lit]; exact hc i hi)).mono ?_
      rintro e w' ⟨rfl, h1, h2⟩
      exact ⟨_, rfl, h1, h2⟩

theorem View_of_owns {w : World} {base len cap : Nat} {ao : Option Addr} {ys : List Int} (h : w.ownsRow base 5 1 (.slice ao len cap) len (U8 ys)) : View w ao len cap ys := by
  have hl : ys.length = len := by have := h.1; rw [U8_length] at this; omega
  refine ⟨hl, ?_⟩
  rcases h.2 with ⟨h1, h2⟩ | ⟨g, c, cur, h1, _⟩
  · left
    simp only [Value.slice.injEq] at h1
    exact ⟨h1.1, h1.2.1, h1.2.2⟩
  · right
    simp only [Value.slice.injEq, true_and] at h1
    obtain ⟨rfl, rfl⟩ := h1
    refine ⟨_, rfl, fun i hi => ?_⟩
    rw [Addr.add_lit, Nat.zero_add, h.cellAt i (by omega), U8_get _ _ (by omega)]

end Go.Proofs.Qxb6606145a
