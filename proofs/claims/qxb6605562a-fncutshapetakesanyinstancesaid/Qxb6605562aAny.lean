/-
  'FnCutShapeTakesAnyInstance': the walk.
-/
import Derived.Test.Qxb6605562aInst
import Derived.Test.Qxb6605562aClone
import Derived.Laws.IdiomStrings
namespace Go.Proofs.Qxb6605562a
open Go.ChangeShapes Go.WideShapes Go.ChangeAt Go.RowKit
set_option linter.unusedVariables false

theorem zz24 (s r p : ByteArray) (w : World) (h : s.size + r.size + p.size ≤ 1048576) :
    Calls Try.prog 24 #[.string s, .string r, .string p] w fun e w' => e = .returned (.bool true) ∧ w' = w := by
  go_enter Try.func24, Try.ntmps24
  go_wp2
  go_ret
  exact ⟨rfl, rfl⟩

set_option maxHeartbeats 400000 in
theorem zz24_no (s r p : ByteArray) (w : World) (hs : s.size ≤ maxLen) (hr : r.size ≤ maxLen) (hp : p.size ≤ maxLen) (h : 1048576 < s.size + r.size + p.size) :
    Calls Try.prog 24 #[.string s, .string r, .string p] w fun e w' => e = .returned (.bool false) ∧ w' = w := by
  unfold maxLen at hs hr hp
  have h5 : 1048576 < s.size ∨ (s.size ≤ 1048576 ∧ 1048576 < r.size) ∨ (s.size ≤ 1048576 ∧ r.size ≤ 1048576 ∧ 1048576 < s.size + r.size) ∨
    (s.size + r.size ≤ 1048576 ∧ 1048576 < p.size) ∨ (s.size + r.size ≤ 1048576 ∧ p.size ≤ 1048576 ∧ 1048576 < s.size + r.size + p.size) := by omega
  clear h
  rcases h5 with h | ⟨h, h'⟩ | ⟨h, h', h''⟩ | ⟨h, h'⟩ | ⟨h, h', h''⟩
  all_goals
    go_enter Try.func24, Try.ntmps24
    go_wp2
    go_ret
    exact ⟨rfl, rfl⟩

section
variable {s r p : ByteArray} {k : Nat} (hk : k < s.size)
theorem tx_d1 (hp : k < p.size) (h1 : (100 : Int) ≤ s[k].toNat) (h2 : (s[k].toNat : Int) ≤ 100) : (48 + ((p[k].toNat : Int) - 48) % 256 % 10) = ((tx s r p k : Nat) : Int) := by
  have e : tx s r p k = 48 + (p[k].toNat + 208) % 256 % 10 := by
    unfold tx
    rw [dif_pos hk]
    unfold inst pickAt
    rw [if_pos (by omega), dif_pos hp]
  rw [e]
  omega
theorem tx_d2 (hp : p.size ≤ k) (h1 : (100 : Int) ≤ s[k].toNat) (h2 : (s[k].toNat : Int) ≤ 100) : (48 : Int) = ((tx s r p k : Nat) : Int) := by
  have e : tx s r p k = 48 := by
    unfold tx
    rw [dif_pos hk]
    unfold inst pickAt
    rw [if_pos (by omega), dif_neg (by omega)]
  rw [e]; rfl
theorem tx_p1 (hp : k < p.size) (h1 : (43 : Int) ≤ s[k].toNat) (h2 : (s[k].toNat : Int) ≤ 43) (hq : ((p[k].toNat : Int) == 45) = true) : (45 : Int) = ((tx s r p k : Nat) : Int) := by
  have hq' : p[k].toNat = 45 := by simp at hq; omega
  have e : tx s r p k = 45 := by
    unfold tx
    rw [dif_pos hk]
    unfold inst pickAt
    rw [if_neg (by omega), if_pos (by omega), dif_pos hp, hq', if_pos rfl]
  rw [e]; rfl
theorem tx_p2 (hp : k < p.size) (h1 : (43 : Int) ≤ s[k].toNat) (h2 : (s[k].toNat : Int) ≤ 43) (hq : ((p[k].toNat : Int) == 45) = false) : (s[k].toNat : Int) = ((tx s r p k : Nat) : Int) := by
  have hq' : p[k].toNat ≠ 45 := by simp at hq; omega
  have e : tx s r p k = 43 := by
    unfold tx
    rw [dif_pos hk]
    unfold inst pickAt
    rw [if_neg (by omega), if_pos (by omega), dif_pos hp, if_neg (by simpa using hq')]
  rw [e]; omega
theorem tx_p3 (hp : p.size ≤ k) (h1 : (43 : Int) ≤ s[k].toNat) (h2 : (s[k].toNat : Int) ≤ 43) : (s[k].toNat : Int) = ((tx s r p k : Nat) : Int) := by
  have e : tx s r p k = 43 := by
    unfold tx
    rw [dif_pos hk]
    unfold inst pickAt
    rw [if_neg (by omega), if_pos (by omega), dif_neg (by omega), if_neg (by simp)]
  rw [e]; omega
theorem tx_o (h1 : ((s[k].toNat : Int) == 100) = false) (h2 : ((s[k].toNat : Int) == 43) = false) : (s[k].toNat : Int) = ((tx s r p k : Nat) : Int) := by
  have e : tx s r p k = s[k].toNat := by
    unfold tx
    rw [dif_pos hk]
    unfold inst pickAt
    simp at h1 h2
    rw [if_neg (by omega), if_neg (by omega)]
  rw [e]
end
theorem tx_r {s r p : ByteArray} {k : Nat} (hk : k < r.size) : (r[k].toNat : Int) = ((tx s r p (s.size + k) : Nat) : Int) := by
  have e : tx s r p (s.size + k) = r[k].toNat := by
    unfold tx
    rw [dif_neg (by omega)]
    simp [Nat.add_sub_cancel_left, hk]
  rw [e]

/-- The bytes laid so far. -/
def Laid (w wr : World) (N k : Nat) (f : Nat → Nat) : Prop :=
  wr.ownsRow w.heap.size 5 1 (.slice (some ⟨w.heap.size, 0, none⟩) k N) k (U8 (pre f k)) ∧ Below w.heap.size w wr

theorem Laid.next {w wr w' : World} {N k : Nat} {f : Nat → Nat} {z : Int} (h : Laid w wr N k f) (e : z = ((f k : Nat) : Int)) {o : Obj}
    (hown : w'.ownsRow w.heap.size 5 1 (.slice (some ⟨w.heap.size, 0, none⟩) (k + 1) N) (k + 1) (U8 (pre f k) ++ [.int .u8 z])) (hg : (wr.alloc o).grownBy w' (some w.heap.size)) : Laid w w' N (k + 1) f := by
  subst e
  refine ⟨?_, ?_⟩
  · rw [pre_succ]
    simpa [U8] using hown
  · exact (h.2.alloc h.2.size o).grown hg (by have := h.2.size; simp; omega) (fun k hk => by cases hk; exact Nat.le_refl _)

theorem one_cell (z : Int) : ∀ u ∈ [Value.int .u8 z], u.oneCell' = true := by
  intro u hu
  simp at hu
  subst hu
  rfl

theorem Laid.text {w wr : World} {N : Nat} {f : Nat → Nat} (hf : ∀ i, f i < 256) (h : Laid w wr N N f) :
    (convert 22 9 (.slice (some ⟨w.heap.size, 0, none⟩) N N)).run Try.prog wr = .ok (.string (str f N)) wr := by
  have := run_convert_bytes_back (P := Try.prog) wr 22 9 5 ⟨w.heap.size, 0, none⟩ N ((List.range N).map fun i => UInt8.ofNat (f i)) Try.underlying22 Try.underlying5 Try.underlying9 (by
    intro j hj
    have hj' : j < N := by simpa using hj
    rw [Addr.add_lit, Nat.zero_add, h.1.cellAt j (by omega), U8_get _ _ (by simpa [pre] using hj')]
    simp [pre, List.getD, hj', Nat.mod_eq_of_lt (hf j)])
  simpa [str] using this

set_option maxHeartbeats 400000 in
theorem any_main (s r p : ByteArray) (w : World) (h : s.size + r.size + p.size ≤ 1048576) :
    Calls Try.prog 8 #[.string s, .string r, .string p] w fun e w' => e = .returned (.bool true) ∧ Below w.heap.size w w' := by
  obtain ⟨i0, hinf, hz0, hz1, hz2⟩ := info_parts info5
  go_enter Try.func8, Try.ntmps8
  go_wp2_with fail
  refine (zz24 s r p _ h).mono ?_
  rintro e w' ⟨rfl, rfl⟩
  go_wp2_with (at_make; refine wpList_make_own _ rfl _ _ 22 rfl w'.heap.size 5 i0 (.int .u8 0) 1 Try.underlying22 hinf hz0 hz1 .i64 .i64 _ (s.size + r.size) rfl rfl (by omega) ?c1 ?c2 ?c3 ?_)
  case c1 => rw [hz2]; omega
  case c2 => unfold maxLen; omega
  case c3 => simp
  intro w1 hown hgrow
  have hb : Below w'.heap.size w' w1 := (Below.refl _ _).grown hgrow (Nat.le_refl _) (fun k h => by cases h)
  have hL0 : Laid w' w1 (s.size + r.size) 0 (tx s r p) := ⟨hown, hb⟩
  clear hgrow hown hb
  go_wp2
  go_loopw [7, 8] (fun b i wr => ∃ k : Nat, k ≤ s.size ∧ i = .int .i64 k ∧ b = .slice (some ⟨w'.heap.size, 0, none⟩) k (s.size + r.size) ∧ Laid w' wr (s.size + r.size) k (tx s r p)) (fun _ i _ => s.size - (intOf i).toNat)
  case atStart => exact ⟨0, Nat.zero_le _, rfl, rfl, hL0⟩
  case round =>
    clear hL0
    obtain ⟨k, hk, rfl, rfl, hL⟩ := hrel
    by_cases hlt : k < s.size
    · have h6 : ((100 : Int) ≤ s[k].toNat ∧ (s[k].toNat : Int) ≤ 100) ∨ ((43 : Int) ≤ s[k].toNat ∧ (s[k].toNat : Int) ≤ 43) ∨ (((s[k].toNat : Int) == 100) = false ∧ ((s[k].toNat : Int) == 43) = false) := by simp; omega
      have hpp : k < p.size ∨ p.size ≤ k := by omega
      have hcap : k + 1 ≤ s.size + r.size := by omega
      rcases h6 with ⟨h1, h2⟩ | ⟨h1, h2⟩ | ⟨h1, h2⟩
      · rcases hpp with hp | hp
        · go_wp2_with (at_builtin; refine wpList_append_fits _ rfl (.tmp 82) (.tmp 84) 22 rfl w'.heap.size 5 i0 1 Try.underlying22 hinf hz1 w'.heap.size k (s.size + r.size) (U8 (pre (tx s r p) k)) rfl (hL.1.alloc _) ⟨wr.heap.size, 0, none⟩ 1 1 [_] rfl rfl (cell_one_new _ _ _) (one_cell _) hcap ?_; intro w2 hown2 hgrow2)
          have hN := hL.next (tx_d1 hlt hp h1 h2) hown2 hgrow2
          clear hown2 hgrow2 hL
          go_roundw
          case rel => exact ⟨k + 1, by omega, by go_num, rfl, hN⟩
          case measure => simp [intOf]; omega
        · go_wp2_with (at_builtin; refine wpList_append_fits _ rfl (.tmp 82) (.tmp 84) 22 rfl w'.heap.size 5 i0 1 Try.underlying22 hinf hz1 w'.heap.size k (s.size + r.size) (U8 (pre (tx s r p) k)) rfl (hL.1.alloc _) ⟨wr.heap.size, 0, none⟩ 1 1 [_] rfl rfl (cell_one_new _ _ _) (one_cell _) hcap ?_; intro w2 hown2 hgrow2)
          have hN := hL.next (tx_d2 hlt hp h1 h2) hown2 hgrow2
          clear hown2 hgrow2 hL
          go_roundw
          case rel => exact ⟨k + 1, by omega, by go_num, rfl, hN⟩
          case measure => simp [intOf]; omega
      · rcases hpp with hp | hp
        · have hq : ((p[k].toNat : Int) == 45) = true ∨ ((p[k].toNat : Int) == 45) = false := by simp; omega
          rcases hq with hq | hq
          · go_wp2_with (at_builtin; refine wpList_append_fits _ rfl (.tmp 82) (.tmp 84) 22 rfl w'.heap.size 5 i0 1 Try.underlying22 hinf hz1 w'.heap.size k (s.size + r.size) (U8 (pre (tx s r p) k)) rfl (hL.1.alloc _) ⟨wr.heap.size, 0, none⟩ 1 1 [_] rfl rfl (cell_one_new _ _ _) (one_cell _) hcap ?_; intro w2 hown2 hgrow2)
            have hN := hL.next (tx_p1 hlt hp h1 h2 hq) hown2 hgrow2
            clear hown2 hgrow2 hL
            go_roundw
            case rel => exact ⟨k + 1, by omega, by go_num, rfl, hN⟩
            case measure => simp [intOf]; omega
          · go_wp2_with (at_builtin; refine wpList_append_fits _ rfl (.tmp 82) (.tmp 84) 22 rfl w'.heap.size 5 i0 1 Try.underlying22 hinf hz1 w'.heap.size k (s.size + r.size) (U8 (pre (tx s r p) k)) rfl (hL.1.alloc _) ⟨wr.heap.size, 0, none⟩ 1 1 [_] rfl rfl (cell_one_new _ _ _) (one_cell _) hcap ?_; intro w2 hown2 hgrow2)
            have hN := hL.next (tx_p2 hlt hp h1 h2 hq) hown2 hgrow2
            clear hown2 hgrow2 hL
            go_roundw
            case rel => exact ⟨k + 1, by omega, by go_num, rfl, hN⟩
            case measure => simp [intOf]; omega
        · have hdd : decide ((k : Int) < (p.size : Int)) = false := decide_eq_false (by omega)
          go_wp2_with (at_builtin; refine wpList_append_fits _ rfl (.tmp 82) (.tmp 84) 22 rfl w'.heap.size 5 i0 1 Try.underlying22 hinf hz1 w'.heap.size k (s.size + r.size) (U8 (pre (tx s r p) k)) rfl (hL.1.alloc _) ⟨wr.heap.size, 0, none⟩ 1 1 [_] rfl rfl (cell_one_new _ _ _) (one_cell _) hcap ?_; intro w2 hown2 hgrow2)
          have hN := hL.next (tx_p3 hlt hp h1 h2) hown2 hgrow2
          clear hown2 hgrow2 hL
          go_roundw
          case rel => exact ⟨k + 1, by omega, by go_num, rfl, hN⟩
          case measure => simp [intOf]; omega
      · go_wp2_with (at_builtin; refine wpList_append_fits _ rfl (.tmp 82) (.tmp 84) 22 rfl w'.heap.size 5 i0 1 Try.underlying22 hinf hz1 w'.heap.size k (s.size + r.size) (U8 (pre (tx s r p) k)) rfl (hL.1.alloc _) ⟨wr.heap.size, 0, none⟩ 1 1 [_] rfl rfl (cell_one_new _ _ _) (one_cell _) hcap ?_; intro w2 hown2 hgrow2)
        have hN := hL.next (tx_o hlt h1 h2) hown2 hgrow2
        clear hown2 hgrow2 hL
        go_roundw
        case rel => exact ⟨k + 1, by omega, by go_num, rfl, hN⟩
        case measure => simp [intOf]; omega
    · obtain rfl : k = s.size := by omega
      go_wp2
      go_loopw [7, 10] (fun b i wr => ∃ t : Nat, t ≤ r.size ∧ i = .int .i64 t ∧ b = .slice (some ⟨w'.heap.size, 0, none⟩) (s.size + t) (s.size + r.size) ∧ Laid w' wr (s.size + r.size) (s.size + t) (tx s r p)) (fun _ i _ => r.size - (intOf i).toNat)
      case atStart => exact ⟨0, Nat.zero_le _, rfl, rfl, hL⟩
      case round =>
        clear hL
        obtain ⟨t, ht, rfl, rfl, hL⟩ := hrel
        by_cases hlt2 : t < r.size
        · have hcap : s.size + t + 1 ≤ s.size + r.size := by omega
          go_wp2_with (at_builtin; refine wpList_append_fits _ rfl (.tmp 92) (.tmp 96) 22 rfl w'.heap.size 5 i0 1 Try.underlying22 hinf hz1 w'.heap.size (s.size + t) (s.size + r.size) (U8 (pre (tx s r p) (s.size + t))) rfl (hL.1.alloc _) ⟨wr.heap.size, 0, none⟩ 1 1 [_] rfl rfl (cell_one_new _ _ _) (one_cell _) hcap ?_; intro w2 hown2 hgrow2)
          have hN := hL.next (tx_r hlt2) hown2 hgrow2
          clear hown2 hgrow2 hL
          go_roundw
          case rel => exact ⟨t + 1, by omega, by go_num, rfl, hN⟩
          case measure => simp [intOf]; omega
        · obtain rfl : t = r.size := by omega
          have hcv := hL.text (tx_lt s r p)
          have hbl := hL.2
          clear hL
          go_wp2_with fail
          refine (cut_inst s r p wr (by omega)).mono ?_
          rintro e w2 ⟨rfl, rfl⟩
          go_wp2
          go_ret
          exact ⟨rfl, hbl⟩
end Go.Proofs.Qxb6605562a
