/-
  FnDecodeTextBySpan: every input.
-/
import Derived.Test.Qxb6614055aTxtLaws2
import Derived.Test.Qxb6614055aTxtLaws3
namespace Go.Proofs.Qxb6614055a.Dec
open Go.ChangeShapes Go.WideShapes Go.ChangeAt Go.RowKit
open Plain

theorem mk1_of (T : ByteArray) (h : T.size = 1) (h0 : 0 < T.size) : T = mk1 T[0].toNat := by
  obtain ⟨⟨l⟩⟩ := T
  match l, h with
  | [x], _ =>
    show (⟨#[x]⟩ : ByteArray) = ⟨#[UInt8.ofNat x.toNat]⟩
    rw [UInt8.ofNat_toNat]

/-- A text: of one byte that is no mark's; not of one byte; or a mark's. -/
theorem text_kinds (T : ByteArray) : (T.size = 1 ∧ ∃ h : 0 < T.size, 41 ≤ T[0].toNat) ∨ ¬ T.size = 1 ∨ ∃ x, T = mk1 x ∧ x < 41 := by
  by_cases h : T.size = 1
  · have h0 : 0 < T.size := by omega
    by_cases hx : 41 ≤ T[0].toNat
    · exact .inl ⟨h, h0, hx⟩
    · exact .inr (.inr ⟨_, mk1_of T h h0, by omega⟩)
  · exact .inr (.inl h)

set_option maxHeartbeats 2000000 in
set_option maxRecDepth 100000 in
theorem txt_huge (d p : ByteArray) (c a : Int) (w : World) (hd : d.size ≤ 9223372036854775807) (hp : p.size ≤ 9223372036854775807) (hsum : ¬ d.size + p.size ≤ 1048576) :
    Calls Try.prog 9 #[.string d, .int .u8 c, .int .i64 a, .string p] w fun e w' => e = .returned (.bool true) ∧ Below w.heap.size w w' := by
  go_enter Try.func9, Try.ntmps9
  go_wp2_with fail
  refine (bytes_txt d p c a w hd hp).mono ?_
  rintro e w' ⟨rfl, rfl⟩
  rw [decide_eq_false hsum]
  clear hsum
  go_wp2
  go_ret
  exact ⟨rfl, Below.refl _ _⟩

set_option maxHeartbeats 2000000 in
set_option maxRecDepth 100000 in
theorem txt_other (d p : ByteArray) (c a : Int) (w : World) (hsum : d.size + p.size ≤ 1048576) (hc : c < 20) :
    Calls Try.prog 9 #[.string d, .int .u8 c, .int .i64 a, .string p] w fun e w' => e = .returned (.bool true) ∧ Below w.heap.size w w' := by
  go_enter Try.func9, Try.ntmps9
  go_wp2_with fail
  refine (bytes_txt d p c a w (by omega) (by omega)).mono ?_
  rintro e w' ⟨rfl, rfl⟩
  rw [decide_eq_true hsum]
  go_wp2
  go_ret
  exact ⟨rfl, Below.refl _ _⟩

set_option maxHeartbeats 2000000 in
set_option maxRecDepth 100000 in
theorem txt_before (d p : ByteArray) (c a : Int) (w : World) (hsum : d.size + p.size ≤ 1048576) (hc : 20 ≤ c) (ha : a < 0) :
    Calls Try.prog 9 #[.string d, .int .u8 c, .int .i64 a, .string p] w fun e w' => e = .returned (.bool true) ∧ Below w.heap.size w w' := by
  go_enter Try.func9, Try.ntmps9
  go_wp2_with fail
  refine (bytes_txt d p c a w (by omega) (by omega)).mono ?_
  rintro e w' ⟨rfl, rfl⟩
  rw [decide_eq_true hsum]
  go_wp2
  go_ret
  exact ⟨rfl, Below.refl _ _⟩

set_option maxHeartbeats 2000000 in
set_option maxRecDepth 100000 in
theorem txt_behind (d p : ByteArray) (c a : Int) (w : World) (hsum : d.size + p.size ≤ 1048576) (hc : 20 ≤ c) (ha : 0 ≤ a) (hb : (d.size : Int) < a) :
    Calls Try.prog 9 #[.string d, .int .u8 c, .int .i64 a, .string p] w fun e w' => e = .returned (.bool true) ∧ Below w.heap.size w w' := by
  have hd2 : decide (a < 0) = false := by simp; omega
  go_enter Try.func9, Try.ntmps9
  go_wp2_with fail
  refine (bytes_txt d p c a w (by omega) (by omega)).mono ?_
  rintro e w' ⟨rfl, rfl⟩
  rw [decide_eq_true hsum]
  go_wp2
  go_ret
  exact ⟨rfl, Below.refl _ _⟩

theorem txt_all (d p : ByteArray) (c a : Int) (w : World) (hd : d.size ≤ 9223372036854775807) (hp : p.size ≤ 9223372036854775807) (hc : c ≤ 255) :
    Calls Try.prog 9 #[.string d, .int .u8 c, .int .i64 a, .string p] w fun e w' => e = .returned (.bool true) ∧ Below w.heap.size w w' := by
  by_cases hsum : d.size + p.size ≤ 1048576
  · by_cases h20 : c < 20
    · exact txt_other d p c a w hsum h20
    by_cases ha : a < 0
    · exact txt_before d p c a w hsum (by omega) ha
    by_cases hb : (d.size : Int) < a
    · exact txt_behind d p c a w hsum (by omega) (by omega) hb
    obtain ⟨a, rfl⟩ : ∃ n : Nat, a = (n : Int) := ⟨a.toNat, by omega⟩
    obtain ⟨n, rfl⟩ : ∃ n : Nat, c = (n : Int) := ⟨c.toNat, by omega⟩
    have ha' : a ≤ d.size := by omega
    rcases (show n = 20 ∨ n = 255 ∨ (21 ≤ n ∧ n ≤ 254) by omega) with rfl | rfl | ⟨h1, h8⟩
    · by_cases hg : ∃ l, GoodUv (bf d a) (d.size - a) l
      · obtain ⟨l, hg⟩ := hg
        have hl := hg.1
        have hlm := hg.2.1
        by_cases hr : d.size < a + (l + 1) + vl (bf d a) (l + 1)
        · exact txt_big_far d p a l _ w hsum ha' hg rfl hl (by omega) (vl_good _ _ _ hg) hr
        · exact txt_big d p a l _ _ w hsum ha' hg rfl hl (by omega) (by omega) rfl
      · exact txt_big_none d p a w hsum ha' (fun l h => hg ⟨l, h⟩)
    · by_cases hg : ∃ l, GoodUv (bf d a) (d.size - a) l
      · obtain ⟨l, hg⟩ := hg
        have hl := hg.1
        have hlm := hg.2.1
        by_cases hr : d.size < a + (l + 1) + vl (bf d a) (l + 1)
        · exact txt_long_far d p a l _ w hsum ha' hg rfl hl (by omega) (vl_good _ _ _ hg) hr
        · rcases text_kinds (d.extract (a + (l + 1)) (a + (l + 1) + vl (bf d a) (l + 1))) with ⟨hz, h0, hx⟩ | hz | ⟨x, hT, hx⟩
          · exact txt_long_one d p a l _ _ w hsum ha' hg rfl hl (by omega) (by omega) rfl hz h0 hx
          · exact txt_long_else d p a l _ _ w hsum ha' hg rfl hl (by omega) (by omega) rfl hz
          · exact txt_long_mark d p a l _ x w hsum ha' hg rfl hl (by omega) (by omega) hT hx
      · exact txt_long_none d p a w hsum ha' (fun l h => hg ⟨l, h⟩)
    · by_cases hr : d.size < a + n - 21
      · exact txt_span_far d p a n w hsum ha' h1 h8 hr
      · have e : a + (n - 21) = a + n - 21 := by omega
        rcases text_kinds (d.extract a (a + n - 21)) with ⟨hz, h0, hx⟩ | hz | ⟨x, hT, hx⟩
        · exact txt_span_one d p a n _ w hsum ha' h1 h8 (by omega) (by rw [e]) rfl hz h0 hx
        · exact txt_span_else d p a n _ w hsum ha' h1 h8 (by omega) (by rw [e]) rfl hz
        · exact txt_span_mark d p a n x w hsum ha' h1 h8 (by omega) (by rw [e]; exact hT) hT hx
  · exact txt_huge d p c a w hd hp hsum
end Go.Proofs.Qxb6614055a.Dec
