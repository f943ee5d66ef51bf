/-
  'FnIsDigitsAcceptsRenderingRefusesInsertion': the walk.
-/
import Derived.Test.Qxb6601033aUtoa
import Derived.RegionTactic
import Derived.ChangeAlike
namespace Go.Proofs.Qxb6601033a
open Go.ChangeShapes Go.WideShapes Go.ChangeAt Go.RowKit
set_option linter.unusedVariables false

/-- 'string([]byte{c})'. -/
theorem conv_one (W : World) (c : Nat) (hc : c < 256) :
    (convert 26 9 (.slice (some ⟨W.heap.size, 0, none⟩) 1 1)).run Try.prog (W.alloc (.cells #[.int .u8 (c : Int)] 5)) = .ok (.string ⟨#[UInt8.ofNat c]⟩) (W.alloc (.cells #[.int .u8 (c : Int)] 5)) := by
  have := run_convert_bytes_back (P := Try.prog) (W.alloc (.cells #[.int .u8 (c : Int)] 5)) 26 9 5 ⟨W.heap.size, 0, none⟩ 1 [UInt8.ofNat c] Try.underlying26 Try.underlying5 Try.underlying9 (by
    intro j hj
    have hj0 : j = 0 := by simpa using hj
    subst hj0
    have h := cell_one_new W (.int .u8 (c : Int)) 5 0 (.int .u8 (c : Int)) rfl
    rw [h]
    simp [Nat.mod_eq_of_lt hc])
  simpa using this

theorem conv_drew (W : World) (c : Nat) (hc : c < 256) :
    (convert 26 9 (.slice (some ⟨W.heap.size, 0, none⟩) 1 1)).run Try.prog (W.alloc (.cells #[.int .u8 (c : Int)] 5)).drew = .ok (.string ⟨#[UInt8.ofNat c]⟩) (W.alloc (.cells #[.int .u8 (c : Int)] 5)).drew :=
  conv_one W.drew c hc

/-- The text with the byte put in. -/
theorem put_size (s : ByteArray) (i c : Nat) (hi : i ≤ s.size) : (s.extract 0 i ++ ⟨#[UInt8.ofNat c]⟩ ++ s.extract i s.size).size = s.size + 1 := by
  have e : (⟨#[UInt8.ofNat c]⟩ : ByteArray).size = 1 := rfl
  rw [ByteArray.size_append, ByteArray.size_append, ByteArray.size_extract, ByteArray.size_extract, e]
  omega

theorem put_at (s : ByteArray) (i c : Nat) (hi : i ≤ s.size) (hc : c < 256) (h : i < (s.extract 0 i ++ ⟨#[UInt8.ofNat c]⟩ ++ s.extract i s.size).size) :
    ((s.extract 0 i ++ ⟨#[UInt8.ofNat c]⟩ ++ s.extract i s.size)[i]'h).toNat = c := by
  have hs : s.data.size = s.size := rfl
  have e : (s.extract 0 i ++ ⟨#[UInt8.ofNat c]⟩ ++ s.extract i s.size)[i]'h = UInt8.ofNat c := by
    show (s.extract 0 i ++ ⟨#[UInt8.ofNat c]⟩ ++ s.extract i s.size).data[i] = _
    simp only [ByteArray.data_append, ByteArray.data_extract]
    rw [Array.getElem_append_left (by simp [hs]; omega), Array.getElem_append_right (by simp; omega)]
    simp
  rw [e]
  simp [Nat.mod_eq_of_lt hc]

theorem put_no (s : ByteArray) (i c : Nat) (hi : i ≤ s.size) (hs : s.size ≤ 20) (hc : c < 256) (hd : dig c = false) (W : World) :
    Calls Try.prog 6 #[.string (s.extract 0 i ++ ⟨#[UInt8.ofNat c]⟩ ++ s.extract i s.size)] W fun e w' => e = .returned (.bool false) ∧ w' = W := by
  have hz := put_size s i c hi
  refine digz (digits_no _ W (by omega) i (by omega) ?_)
  rw [put_at s i c hi hc]
  exact hd

set_option maxHeartbeats 400000 in
theorem insert_main (m i c : Nat) (w : World) (hm : m < 18446744073709551616) (hi : i ≤ 9223372036854775807) (hc : c < 256) :
    Calls Try.prog 4 #[.int .u64 m, .int .i64 i, .int .u8 c] w fun e w' => e = .returned (.bool true) ∧ Below w.heap.size w w' := by
  go_enter Try.func4, Try.ntmps4
  go_wp2_with fail
  refine (utoa_any m _ hm).mono ?_
  rintro e w1 ⟨s, rfl, ⟨hs1, hs2, hs3⟩, hb⟩
  have q1 := fun W => digz (digits_yes s W (by omega) hs1 hs3)
  by_cases his : i ≤ s.size
  · by_cases hd : dig c = true
    · obtain ⟨b1, b2⟩ := dig_true hd
      go_wp2_with fail
      refine (q1 _).mono ?_
      rintro e w2 ⟨rfl, rfl⟩
      clear q1
      go_wp2
      go_ret
      exact ⟨rfl, hb⟩
    · have q2 := put_no s i c his hs2 hc (by simpa using hd)
      have hcv := fun W => conv_drew W c hc
      have hI : (i : Int) ≤ (s.size : Int) := by omega
      have hbb := dig_false (by simpa using hd)
      have hcd : (decide ((48 : Int) ≤ (c : Int)) = false) ∨ (decide ((48 : Int) ≤ (c : Int)) = true ∧ decide ((c : Int) ≤ 57) = false) := by
        rcases hbb with h | ⟨h, h'⟩
        · left; exact decide_eq_false (by omega)
        · right; exact ⟨decide_eq_true (by omega), decide_eq_false (by omega)⟩
      clear hbb
      rcases hcd with g1 | ⟨g1, g2⟩
      all_goals
        go_wp2_with fail
        refine (q1 _).mono ?_
        rintro e w2 ⟨rfl, rfl⟩
        clear q1
        go_wp2
        go_region
        go_wp2_with fail
        refine (q2 _).mono ?_
        rintro e w3 ⟨rfl, rfl⟩
        clear q2
        go_wp2
        go_ret
        exact ⟨rfl, (hb.alloc hb.size _).drew⟩
  · have hgt : (s.size : Int) < (i : Int) := by omega
    clear q1
    go_wp2
    go_ret
    exact ⟨rfl, hb⟩
end Go.Proofs.Qxb6601033a
