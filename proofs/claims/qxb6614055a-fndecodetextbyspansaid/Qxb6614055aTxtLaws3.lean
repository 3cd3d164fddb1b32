/-
  FnDecodeTextBySpan at codes 21 to 254.
-/
import Derived.Test.Qxb6614055aTxtLaws
namespace Go.Proofs.Qxb6614055a.Dec
open Go.ChangeShapes Go.WideShapes Go.ChangeAt Go.RowKit
open Plain
set_option linter.unusedVariables false

set_option maxHeartbeats 2000000 in
set_option maxRecDepth 100000 in
theorem txt_span_far (d p : ByteArray) (a : Nat) (c : Nat) (w : World) (hsum : d.size + p.size ≤ 1048576) (ha : a ≤ d.size) (h1 : 21 ≤ c) (h2 : c ≤ 254) (hr : d.size < a + c - 21) :
    Calls Try.prog 9 #[.string d, .int .u8 c, .int .i64 a, .string p] w fun e w' => e = .returned (.bool true) ∧ Below w.heap.size w w' := by
  have e20 : ((c : Int) == 20) = false := by simp; omega
  have e255 : ((c : Int) == 255) = false := by simp; omega
  go_enter Try.func9, Try.ntmps9
  go_wp2_with fail
  refine (bytes_txt d p c a w (by omega) (by omega)).mono ?_
  rintro e w' ⟨rfl, rfl⟩
  rw [decide_eq_true hsum]
  go_wp2
  go_ret
  exact ⟨rfl, Below.refl _ _⟩

set_option maxHeartbeats 2000000 in
set_option maxRecDepth 100000 in
theorem txt_span_one (d p : ByteArray) (a : Nat) (c : Nat) (T : ByteArray) (w : World) (hsum : d.size + p.size ≤ 1048576) (ha : a ≤ d.size) (h1 : 21 ≤ c) (h2 : c ≤ 254) (hr : a + c - 21 ≤ d.size) (hT : d.extract a (a + (c - 21)) = T) (hT2 : d.extract a (a + c - 21) = T) (hz1 : T.size = 1) (hlt : 0 < T.size) (hg : 41 ≤ T[0].toNat) :
    Calls Try.prog 9 #[.string d, .int .u8 c, .int .i64 a, .string p] w fun e w' => e = .returned (.bool true) ∧ Below w.heap.size w w' := by
  have e20 : ((c : Int) == 20) = false := by simp; omega
  have e255 : ((c : Int) == 255) = false := by simp; omega
  have hg2 : T[0].toNat < 256 := UInt8.toNat_lt _
  have e1 : (((T.size : Nat) : Int) == 1) = true := by simp; omega
  have HZ : Hid (T.size = 1) := hz1
  clear hz1
  have HD1 : Hid (∀ w, Calls Try.prog 29 #[.string d, .int .u8 c, .int .i64 a] w fun e w' => e = .returned (.agg #[.string T, .int .i64 1]) ∧ Below w.heap.size w w') := fun w => by
    exact dec_txt d _ a c _ w h1 h2 hr (by omega) (fun w => by rw [hT2]; exact strv_plain T (fun _ _ => hg) w)
  have HD2 : Hid (∀ w, Calls Try.prog 29 #[.string (p ++ d), .int .u8 c, .int .i64 (a + p.size)] w fun e w' => e = .returned (.agg #[.string T, .int .i64 1]) ∧ Below w.heap.size w w') := fun w => by
    rw [show ((a : Int) + (p.size : Int)) = ((a + p.size : Nat) : Int) from by omega]
    exact dec_txt (p ++ d) _ (a + p.size) c _ w h1 h2 (by rw [cat2_size]; omega) (by rw [cat2_size]; omega) (fun w => by rw [cat_ext' p d a (a + c - 21) _ _ rfl (by omega), hT2]; exact strv_plain T (fun _ _ => hg) w)
  go_enter Try.func9, Try.ntmps9
  go_wp2_with fail
  refine (bytes_txt d p c a w (by omega) (by omega)).mono ?_
  rintro e w' ⟨rfl, rfl⟩
  rw [decide_eq_true hsum]
  go_wp2_with fail
  refine (zzdecode d T c a 1 HD1 _).mono ?_
  rintro e w1 ⟨rfl, hb1⟩
  have H1 : Hid (Below w'.heap.size w' w1) := hb1
  clear hb1
  go_wp2_with fail
  refine (zzdecode (p ++ d) T c (a + p.size) 1 HD2 _).mono ?_
  rintro e w2 ⟨rfl, hb2⟩
  have H2 : Hid (Below w'.heap.size w' w2) := H1.out.trans (hb2.mono H1.out.size)
  clear hb2
  go_wp2
  go_ret
  exact ⟨rfl, H2.out⟩

set_option maxHeartbeats 2000000 in
set_option maxRecDepth 100000 in
theorem txt_span_else (d p : ByteArray) (a : Nat) (c : Nat) (T : ByteArray) (w : World) (hsum : d.size + p.size ≤ 1048576) (ha : a ≤ d.size) (h1 : 21 ≤ c) (h2 : c ≤ 254) (hr : a + c - 21 ≤ d.size) (hT : d.extract a (a + (c - 21)) = T) (hT2 : d.extract a (a + c - 21) = T) (hz1 : ¬ T.size = 1) :
    Calls Try.prog 9 #[.string d, .int .u8 c, .int .i64 a, .string p] w fun e w' => e = .returned (.bool true) ∧ Below w.heap.size w w' := by
  have e20 : ((c : Int) == 20) = false := by simp; omega
  have e255 : ((c : Int) == 255) = false := by simp; omega
  have e1 : (((T.size : Nat) : Int) == 1) = false := by simp; omega
  have HZ : Hid (¬ T.size = 1) := hz1
  clear hz1
  have HD1 : Hid (∀ w, Calls Try.prog 29 #[.string d, .int .u8 c, .int .i64 a] w fun e w' => e = .returned (.agg #[.string T, .int .i64 1]) ∧ Below w.heap.size w w') := fun w => by
    exact dec_txt d _ a c _ w h1 h2 hr (by omega) (fun w => by rw [hT2]; exact strv_plain T (fun h => absurd h HZ.out) w)
  have HD2 : Hid (∀ w, Calls Try.prog 29 #[.string (p ++ d), .int .u8 c, .int .i64 (a + p.size)] w fun e w' => e = .returned (.agg #[.string T, .int .i64 1]) ∧ Below w.heap.size w w') := fun w => by
    rw [show ((a : Int) + (p.size : Int)) = ((a + p.size : Nat) : Int) from by omega]
    exact dec_txt (p ++ d) _ (a + p.size) c _ w h1 h2 (by rw [cat2_size]; omega) (by rw [cat2_size]; omega) (fun w => by rw [cat_ext' p d a (a + c - 21) _ _ rfl (by omega), hT2]; exact strv_plain T (fun h => absurd h HZ.out) w)
  go_enter Try.func9, Try.ntmps9
  go_wp2_with fail
  refine (bytes_txt d p c a w (by omega) (by omega)).mono ?_
  rintro e w' ⟨rfl, rfl⟩
  rw [decide_eq_true hsum]
  go_wp2_with fail
  refine (zzdecode d T c a 1 HD1 _).mono ?_
  rintro e w1 ⟨rfl, hb1⟩
  have H1 : Hid (Below w'.heap.size w' w1) := hb1
  clear hb1
  go_wp2_with fail
  refine (zzdecode (p ++ d) T c (a + p.size) 1 HD2 _).mono ?_
  rintro e w2 ⟨rfl, hb2⟩
  have H2 : Hid (Below w'.heap.size w' w2) := H1.out.trans (hb2.mono H1.out.size)
  clear hb2
  go_wp2
  go_ret
  exact ⟨rfl, H2.out⟩

set_option maxHeartbeats 2000000 in
set_option maxRecDepth 100000 in
theorem txt_span_mark (d p : ByteArray) (a : Nat) (c : Nat) (x : Nat) (w : World) (hsum : d.size + p.size ≤ 1048576) (ha : a ≤ d.size) (h1 : 21 ≤ c) (h2 : c ≤ 254) (hr : a + c - 21 ≤ d.size) (hT : d.extract a (a + (c - 21)) = (mk1 x)) (hT2 : d.extract a (a + c - 21) = (mk1 x)) (hx : x < 41) :
    Calls Try.prog 9 #[.string d, .int .u8 c, .int .i64 a, .string p] w fun e w' => e = .returned (.bool true) ∧ Below w.heap.size w w' := by
  have e20 : ((c : Int) == 20) = false := by simp; omega
  have e255 : ((c : Int) == 255) = false := by simp; omega
  have hz : (mk1 x).size = 1 := rfl
  have hg : (mk1 x)[0].toNat = x := mk1_get x (by omega) (by rw [hz]; omega)
  have HD1 : Hid (∀ w, Calls Try.prog 29 #[.string d, .int .u8 c, .int .i64 a] w fun e w' => e = .returned (.agg #[.string { data := #[] }, .int .i64 (4 + (x : Int))]) ∧ Below w.heap.size w w') := fun w => by
    exact dec_txt d _ a c _ w h1 h2 hr (by omega) (fun w => by rw [hT2]; exact strv_mark (mk1 x) x ⟨rfl, hx⟩ w)
  have HD2 : Hid (∀ w, Calls Try.prog 29 #[.string (p ++ d), .int .u8 c, .int .i64 (a + p.size)] w fun e w' => e = .returned (.agg #[.string { data := #[] }, .int .i64 (4 + (x : Int))]) ∧ Below w.heap.size w w') := fun w => by
    rw [show ((a : Int) + (p.size : Int)) = ((a + p.size : Nat) : Int) from by omega]
    exact dec_txt (p ++ d) _ (a + p.size) c _ w h1 h2 (by rw [cat2_size]; omega) (by rw [cat2_size]; omega) (fun w => by rw [cat_ext' p d a (a + c - 21) _ _ rfl (by omega), hT2]; exact strv_mark (mk1 x) x ⟨rfl, hx⟩ w)
  go_enter Try.func9, Try.ntmps9
  go_wp2_with fail
  refine (bytes_txt d p c a w (by omega) (by omega)).mono ?_
  rintro e w' ⟨rfl, rfl⟩
  rw [decide_eq_true hsum]
  go_wp2_with fail
  refine (zzdecode d { data := #[] } c a (4 + (x : Int)) HD1 _).mono ?_
  rintro e w1 ⟨rfl, hb1⟩
  have H1 : Hid (Below w'.heap.size w' w1) := hb1
  clear hb1
  go_wp2_with fail
  refine (zzdecode (p ++ d) { data := #[] } c (a + p.size) (4 + (x : Int)) HD2 _).mono ?_
  rintro e w2 ⟨rfl, hb2⟩
  have H2 : Hid (Below w'.heap.size w' w2) := H1.out.trans (hb2.mono H1.out.size)
  clear hb2
  go_wp2
  go_ret
  exact ⟨rfl, H2.out⟩

end Go.Proofs.Qxb6614055a.Dec
