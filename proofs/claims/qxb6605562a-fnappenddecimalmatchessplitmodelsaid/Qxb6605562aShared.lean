/-
  What both laws on appendDecimal share: cloneBytes at every slice; the guards; ZZappendDecimal.
-/
import Derived.Test.Qxb6605562aApp
import Derived.RegionTactic
import Derived.Deep.QuietTactic
import Derived.BigQuiet
namespace Go.Proofs.Qxb6605562a
open Go.ChangeShapes Go.WideShapes Go.ChangeAt Go.RowKit
set_option linter.unusedVariables false

/-- A slice of bytes that is read: nil, or its elements lie in memory. -/
def View (w : World) (a : Option Addr) (len cap : Nat) (ys : List Int) : Prop :=
  ys.length = len ∧ ((a = none ∧ len = 0 ∧ cap = 0) ∨ ∃ x, a = some x ∧ ∀ i, i < len → w.cell? (x.add i) = some (.int .u8 (ys.getD i 0)))

set_option maxHeartbeats 400000 in
theorem clone_empty (x : Addr) (cap : Nat) (w : World) :
    Calls Try.prog 10 #[.slice (some x) 0 cap] w fun e w' => e = .returned (.slice (some ⟨w.heap.size, 0, none⟩) 0 0) ∧
      w'.ownsRow w.heap.size 5 1 (.slice (some ⟨w.heap.size, 0, none⟩) 0 0) 0 [] ∧ Below w.heap.size w w' := by
  have q22 : ∀ (w : World) (a : Option Addr) (n c n' c' : Nat), (binOp .eql 22 (.slice a n c) (.slice none n' c')).run Try.prog w = .ok (.bool a.isNone) w := fun w a n c n' c' => Lib.run_eql_slice_nil w _ _ a n c n' c' Try.underlying22
  obtain ⟨i0, hi, hz0, hz1, hz2⟩ := info_parts info5
  go_enter Try.func10, Try.ntmps10
  go_wp2_with (at_make; refine wpList_make_full _ rfl _ _ 22 rfl w.heap.size 5 i0 (.int .u8 0) 1 Try.underlying22 hi hz0 hz1 .i64 .i64 _ _ 0 rfl rfl rfl rfl ?c1 ?c2 ?c3 ?_)
  case c1 => rw [hz2]; omega
  case c2 => unfold maxLen; omega
  case c3 => simp
  intro w1 hown hgrow
  rw [made_half [] 0] at hown
  have hb : Below w.heap.size w w1 := (Below.refl _ _).grown hgrow (Nat.le_refl _) (fun k h => by cases h)
  clear hgrow
  go_wp2
  refine wp_loop_rounds 1 ?_
  rw [rounds_succ]
  go_wp2
  go_ret
  exact ⟨rfl, hown, hb⟩

theorem clone_any (a : Option Addr) (len cap : Nat) (ys : List Int) (w : World) (hl : len ≤ 1048576) (hv : View w a len cap ys) :
    Calls Try.prog 10 #[.slice a len cap] w fun e w' => ∃ ao, e = .returned (.slice ao len len) ∧
      w'.ownsRow w.heap.size 5 1 (.slice ao len len) len (U8 ys) ∧ Below w.heap.size w w' := by
  obtain ⟨hy, ⟨rfl, rfl, rfl⟩ | ⟨x, rfl, hc⟩⟩ := hv
  · refine (clone_nil w).mono ?_
    rintro e w' ⟨rfl, rfl⟩
    obtain rfl := List.eq_nil_of_length_eq_zero hy
    exact ⟨none, rfl, World.ownsRow_nil _ _ _ _, Below.refl _ _⟩
  · by_cases h0 : len = 0
    · subst h0
      refine (clone_empty x cap w).mono ?_
      rintro e w' ⟨rfl, h1, h2⟩
      obtain rfl := List.eq_nil_of_length_eq_zero hy
      exact ⟨_, rfl, h1, h2⟩
    · obtain ⟨b, off, spot⟩ := x
      have hspot : spot = none := by simpa [Addr.add] using World.cell?_spot (hc 0 (by omega))
      subst hspot
      refine (clone_cells b off len cap ys w hy hl (fun i hi => by rw [← Addr.add_lit]; exact hc i hi)).mono ?_
      rintro e w' ⟨rfl, h1, h2⟩
      exact ⟨_, rfl, h1, h2⟩

theorem View_of_owns {w : World} {base len cap : Nat} {ao : Option Addr} {ys : List Int} (h : w.ownsRow base 5 1 (.slice ao len cap) len (U8 ys)) : View w ao len cap ys := by
  have hl : ys.length = len := by have := h.1; rw [U8_length] at this; omega
  refine ⟨hl, ?_⟩
  rcases h.2 with ⟨h1, h2⟩ | ⟨g, c, cur, h1, _⟩
  · left
    simp only [Value.slice.injEq] at h1
    exact ⟨h1.1, h1.2.1, h1.2.2⟩
  · right
    simp only [Value.slice.injEq, true_and] at h1
    obtain ⟨rfl, rfl⟩ := h1
    refine ⟨_, rfl, fun i hi => ?_⟩
    rw [Addr.add_lit, Nat.zero_add, h.cellAt i (by omega), U8_get _ _ (by omega)]

theorem zz16 (a : Option Addr) (len cap : Nat) (m k : Int) (w : World) (hl : len ≤ 1048576) :
    Calls Try.prog 16 #[.slice a len cap, .int .u64 m, .int .i64 k] w fun e w' => e = .returned (.bool true) ∧ w' = w := by
  go_enter Try.func16, Try.ntmps16
  go_wp2
  go_ret
  exact ⟨rfl, rfl⟩

theorem app_zz (v : Value) (m k n : Nat) (xs : List Value) (w : World) (base : Nat) (hm : m < 18446744073709551616) (hk : k ≤ 15)
    (hown : w.ownsRow base 5 1 v n xs) (hn : n ≤ 1048576) (hbase : base ≤ w.heap.size) :
    Calls Try.prog 11 #[v, .int .u64 m, .int .i64 k] w fun e w' => ∃ (g c d : Nat), e = .returned (.slice (some ⟨g, 0, none⟩) (n + (dec m k d).length) c) ∧ Whole (m / 10 ^ k) d ∧
      w'.ownsRow base 5 1 (.slice (some ⟨g, 0, none⟩) (n + (dec m k d).length) c) (n + (dec m k d).length) (xs ++ U8 (dec m k d)) ∧ w.grownBy w' v.ownBlock := by
  go_enter Try.func11, Try.ntmps11
  go_wp2_with fail
  refine (app_dec v m k n xs w base hm hk hown hn hbase).mono ?_
  rintro e w' ⟨g, c, d, rfl, h1, h2, h3⟩
  go_wp2
  go_ret
  exact ⟨g, c, d, rfl, h1, h2, h3⟩

end Go.Proofs.Qxb6605562a
