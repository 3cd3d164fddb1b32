/-
  FnDecodeTextBySpan at code 255.
-/
import Derived.Test.Qxb6614055aTxtLaws
namespace Go.Proofs.Qxb6614055a.Dec
open Go.ChangeShapes Go.WideShapes Go.ChangeAt Go.RowKit
open Plain
set_option linter.unusedVariables false

set_option maxHeartbeats 2000000 in
set_option maxRecDepth 100000 in
theorem txt_long_far (d p : ByteArray) (a : Nat) (l V : Nat) (w : World) (hsum : d.size + p.size ≤ 1048576) (ha : a ≤ d.size) (HG : Hid (GoodUv (bf d a) (d.size - a) l)) (HV : Hid (V = vl (bf d a) (l + 1))) (hl : l < 10) (hlm : a + l < d.size) (hV : V < 18446744073709551616) (hr : d.size < a + (l + 1) + V) :
    Calls Try.prog 9 #[.string d, .int .u8 255, .int .i64 a, .string p] w fun e w' => e = .returned (.bool true) ∧ Below w.heap.size w w' := by
  go_enter Try.func9, Try.ntmps9
  go_wp2_with fail
  refine (bytes_txt d p 255 a w (by omega) (by omega)).mono ?_
  rintro e w' ⟨rfl, rfl⟩
  rw [decide_eq_true hsum]
  go_wp2_with fail
  refine (zzuv_good d a l (bf d a) _ (by omega) ha (fun i h => bf_get d a i h) (bf_lt d a) HG).mono ?_
  rintro e w3 ⟨rfl, hw3⟩
  subst w3
  rw [← HV.out]
  clear HG
  go_wp2
  go_ret
  exact ⟨rfl, Below.refl _ _⟩

set_option maxHeartbeats 2000000 in
set_option maxRecDepth 100000 in
theorem txt_long_none (d p : ByteArray) (a : Nat) (w : World) (hsum : d.size + p.size ≤ 1048576) (ha : a ≤ d.size) (HG : Hid (∀ l, ¬ GoodUv (bf d a) (d.size - a) l)) :
    Calls Try.prog 9 #[.string d, .int .u8 255, .int .i64 a, .string p] w fun e w' => e = .returned (.bool true) ∧ Below w.heap.size w w' := by
  have HD1 : Hid (∀ w, Calls Try.prog 29 #[.string d, .int .u8 255, .int .i64 a] w fun e w' => e = .returned (.agg #[.string ByteArray.empty, .int .i64 1]) ∧ Below w.heap.size w w') := fun w => by
    exact dec_long_none d a (bf d a) w (by omega) ha (fun i h => ext_get d a i h) (bf_lt d a) (by unfold Hid; rw [ext_size]; exact HG.out)
  have HD2 : Hid (∀ w, Calls Try.prog 29 #[.string (p ++ d), .int .u8 255, .int .i64 (a + p.size)] w fun e w' => e = .returned (.agg #[.string ByteArray.empty, .int .i64 1]) ∧ Below w.heap.size w w') := fun w => by
    rw [show ((a : Int) + (p.size : Int)) = ((a + p.size : Nat) : Int) from by omega]
    exact dec_long_none (p ++ d) (a + p.size) (bf d a) w (by rw [cat2_size]; omega) (by rw [cat2_size]; omega) (fun i h => cat_ext_get p d a i h) (bf_lt d a) (by unfold Hid; rw [cat_ext_size]; exact HG.out)
  go_enter Try.func9, Try.ntmps9
  go_wp2_with fail
  refine (bytes_txt d p 255 a w (by omega) (by omega)).mono ?_
  rintro e w' ⟨rfl, rfl⟩
  rw [decide_eq_true hsum]
  go_wp2_with fail
  refine (zzuv_none d a (bf d a) _ (by omega) ha (fun i h => bf_get d a i h) (bf_lt d a) HG).mono ?_
  rintro e w3 ⟨rfl, hw3⟩
  subst w3
  clear HG
  go_wp2_with fail
  refine (zzdecode d ByteArray.empty 255 a 1 HD1 _).mono ?_
  rintro e w1 ⟨rfl, hb1⟩
  have H1 : Hid (Below w'.heap.size w' w1) := hb1
  clear hb1
  go_wp2_with fail
  refine (zzdecode (p ++ d) ByteArray.empty 255 (a + p.size) 1 HD2 _).mono ?_
  rintro e w2 ⟨rfl, hb2⟩
  have H2 : Hid (Below w'.heap.size w' w2) := H1.out.trans (hb2.mono H1.out.size)
  clear hb2
  go_wp2
  go_ret
  exact ⟨rfl, H2.out⟩

set_option maxHeartbeats 2000000 in
set_option maxRecDepth 100000 in
theorem txt_long_one (d p : ByteArray) (a : Nat) (l V : Nat) (T : ByteArray) (w : World) (hsum : d.size + p.size ≤ 1048576) (ha : a ≤ d.size) (HG : Hid (GoodUv (bf d a) (d.size - a) l)) (HV : Hid (V = vl (bf d a) (l + 1))) (hl : l < 10) (hlm : a + l < d.size) (hr : a + (l + 1) + V ≤ d.size) (hT : d.extract (a + (l + 1)) (a + (l + 1) + V) = T) (hz1 : T.size = 1) (hlt : 0 < T.size) (hg : 41 ≤ T[0].toNat) :
    Calls Try.prog 9 #[.string d, .int .u8 255, .int .i64 a, .string p] w fun e w' => e = .returned (.bool true) ∧ Below w.heap.size w w' := by
  have hg2 : T[0].toNat < 256 := UInt8.toNat_lt _
  have e1 : (((T.size : Nat) : Int) == 1) = true := by simp; omega
  have HZ : Hid (T.size = 1) := hz1
  clear hz1
  have HD1 : Hid (∀ w, Calls Try.prog 29 #[.string d, .int .u8 255, .int .i64 a] w fun e w' => e = .returned (.agg #[.string T, .int .i64 1]) ∧ Below w.heap.size w w') := fun w => by
    exact dec_long d _ a l V _ (bf d a) w (by omega) ha HV hr (fun i h => ext_get d a i h) (bf_lt d a) (by unfold Hid; rw [ext_size]; exact HG.out) (fun w => by rw [hT]; exact strv_plain T (fun _ _ => hg) w)
  have HD2 : Hid (∀ w, Calls Try.prog 29 #[.string (p ++ d), .int .u8 255, .int .i64 (a + p.size)] w fun e w' => e = .returned (.agg #[.string T, .int .i64 1]) ∧ Below w.heap.size w w') := fun w => by
    rw [show ((a : Int) + (p.size : Int)) = ((a + p.size : Nat) : Int) from by omega]
    exact dec_long (p ++ d) _ (a + p.size) l V _ (bf d a) w (by rw [cat2_size]; omega) (by rw [cat2_size]; omega) HV (by rw [cat2_size]; omega) (fun i h => cat_ext_get p d a i h) (bf_lt d a) (by unfold Hid; rw [cat_ext_size]; exact HG.out) (fun w => by rw [cat_ext' p d (a + (l + 1)) (a + (l + 1) + V) _ _ (by omega) (by omega), hT]; exact strv_plain T (fun _ _ => hg) w)
  go_enter Try.func9, Try.ntmps9
  go_wp2_with fail
  refine (bytes_txt d p 255 a w (by omega) (by omega)).mono ?_
  rintro e w' ⟨rfl, rfl⟩
  rw [decide_eq_true hsum]
  go_wp2_with fail
  refine (zzuv_good d a l (bf d a) _ (by omega) ha (fun i h => bf_get d a i h) (bf_lt d a) HG).mono ?_
  rintro e w3 ⟨rfl, hw3⟩
  subst w3
  rw [← HV.out]
  clear HG
  go_wp2_with fail
  refine (zzdecode d T 255 a 1 HD1 _).mono ?_
  rintro e w1 ⟨rfl, hb1⟩
  have H1 : Hid (Below w'.heap.size w' w1) := hb1
  clear hb1
  go_wp2_with fail
  refine (zzdecode (p ++ d) T 255 (a + p.size) 1 HD2 _).mono ?_
  rintro e w2 ⟨rfl, hb2⟩
  have H2 : Hid (Below w'.heap.size w' w2) := H1.out.trans (hb2.mono H1.out.size)
  clear hb2
  go_wp2
  go_ret
  exact ⟨rfl, H2.out⟩

set_option maxHeartbeats 2000000 in
set_option maxRecDepth 100000 in
theorem txt_long_else (d p : ByteArray) (a : Nat) (l V : Nat) (T : ByteArray) (w : World) (hsum : d.size + p.size ≤ 1048576) (ha : a ≤ d.size) (HG : Hid (GoodUv (bf d a) (d.size - a) l)) (HV : Hid (V = vl (bf d a) (l + 1))) (hl : l < 10) (hlm : a + l < d.size) (hr : a + (l + 1) + V ≤ d.size) (hT : d.extract (a + (l + 1)) (a + (l + 1) + V) = T) (hz1 : ¬ T.size = 1) :
    Calls Try.prog 9 #[.string d, .int .u8 255, .int .i64 a, .string p] w fun e w' => e = .returned (.bool true) ∧ Below w.heap.size w w' := by
  have e1 : (((T.size : Nat) : Int) == 1) = false := by simp; omega
  have HZ : Hid (¬ T.size = 1) := hz1
  clear hz1
  have HD1 : Hid (∀ w, Calls Try.prog 29 #[.string d, .int .u8 255, .int .i64 a] w fun e w' => e = .returned (.agg #[.string T, .int .i64 1]) ∧ Below w.heap.size w w') := fun w => by
    exact dec_long d _ a l V _ (bf d a) w (by omega) ha HV hr (fun i h => ext_get d a i h) (bf_lt d a) (by unfold Hid; rw [ext_size]; exact HG.out) (fun w => by rw [hT]; exact strv_plain T (fun h => absurd h HZ.out) w)
  have HD2 : Hid (∀ w, Calls Try.prog 29 #[.string (p ++ d), .int .u8 255, .int .i64 (a + p.size)] w fun e w' => e = .returned (.agg #[.string T, .int .i64 1]) ∧ Below w.heap.size w w') := fun w => by
    rw [show ((a : Int) + (p.size : Int)) = ((a + p.size : Nat) : Int) from by omega]
    exact dec_long (p ++ d) _ (a + p.size) l V _ (bf d a) w (by rw [cat2_size]; omega) (by rw [cat2_size]; omega) HV (by rw [cat2_size]; omega) (fun i h => cat_ext_get p d a i h) (bf_lt d a) (by unfold Hid; rw [cat_ext_size]; exact HG.out) (fun w => by rw [cat_ext' p d (a + (l + 1)) (a + (l + 1) + V) _ _ (by omega) (by omega), hT]; exact strv_plain T (fun h => absurd h HZ.out) w)
  go_enter Try.func9, Try.ntmps9
  go_wp2_with fail
  refine (bytes_txt d p 255 a w (by omega) (by omega)).mono ?_
  rintro e w' ⟨rfl, rfl⟩
  rw [decide_eq_true hsum]
  go_wp2_with fail
  refine (zzuv_good d a l (bf d a) _ (by omega) ha (fun i h => bf_get d a i h) (bf_lt d a) HG).mono ?_
  rintro e w3 ⟨rfl, hw3⟩
  subst w3
  rw [← HV.out]
  clear HG
  go_wp2_with fail
  refine (zzdecode d T 255 a 1 HD1 _).mono ?_
  rintro e w1 ⟨rfl, hb1⟩
  have H1 : Hid (Below w'.heap.size w' w1) := hb1
  clear hb1
  go_wp2_with fail
  refine (zzdecode (p ++ d) T 255 (a + p.size) 1 HD2 _).mono ?_
  rintro e w2 ⟨rfl, hb2⟩
  have H2 : Hid (Below w'.heap.size w' w2) := H1.out.trans (hb2.mono H1.out.size)
  clear hb2
  go_wp2
  go_ret
  exact ⟨rfl, H2.out⟩

set_option maxHeartbeats 2000000 in
set_option maxRecDepth 100000 in
theorem txt_long_mark (d p : ByteArray) (a : Nat) (l V : Nat) (x : Nat) (w : World) (hsum : d.size + p.size ≤ 1048576) (ha : a ≤ d.size) (HG : Hid (GoodUv (bf d a) (d.size - a) l)) (HV : Hid (V = vl (bf d a) (l + 1))) (hl : l < 10) (hlm : a + l < d.size) (hr : a + (l + 1) + V ≤ d.size) (hT : d.extract (a + (l + 1)) (a + (l + 1) + V) = (mk1 x)) (hx : x < 41) :
    Calls Try.prog 9 #[.string d, .int .u8 255, .int .i64 a, .string p] w fun e w' => e = .returned (.bool true) ∧ Below w.heap.size w w' := by
  have hz : (mk1 x).size = 1 := rfl
  have hg : (mk1 x)[0].toNat = x := mk1_get x (by omega) (by rw [hz]; omega)
  have HD1 : Hid (∀ w, Calls Try.prog 29 #[.string d, .int .u8 255, .int .i64 a] w fun e w' => e = .returned (.agg #[.string { data := #[] }, .int .i64 (4 + (x : Int))]) ∧ Below w.heap.size w w') := fun w => by
    exact dec_long d _ a l V _ (bf d a) w (by omega) ha HV hr (fun i h => ext_get d a i h) (bf_lt d a) (by unfold Hid; rw [ext_size]; exact HG.out) (fun w => by rw [hT]; exact strv_mark (mk1 x) x ⟨rfl, hx⟩ w)
  have HD2 : Hid (∀ w, Calls Try.prog 29 #[.string (p ++ d), .int .u8 255, .int .i64 (a + p.size)] w fun e w' => e = .returned (.agg #[.string { data := #[] }, .int .i64 (4 + (x : Int))]) ∧ Below w.heap.size w w') := fun w => by
    rw [show ((a : Int) + (p.size : Int)) = ((a + p.size : Nat) : Int) from by omega]
    exact dec_long (p ++ d) _ (a + p.size) l V _ (bf d a) w (by rw [cat2_size]; omega) (by rw [cat2_size]; omega) HV (by rw [cat2_size]; omega) (fun i h => cat_ext_get p d a i h) (bf_lt d a) (by unfold Hid; rw [cat_ext_size]; exact HG.out) (fun w => by rw [cat_ext' p d (a + (l + 1)) (a + (l + 1) + V) _ _ (by omega) (by omega), hT]; exact strv_mark (mk1 x) x ⟨rfl, hx⟩ w)
  go_enter Try.func9, Try.ntmps9
  go_wp2_with fail
  refine (bytes_txt d p 255 a w (by omega) (by omega)).mono ?_
  rintro e w' ⟨rfl, rfl⟩
  rw [decide_eq_true hsum]
  go_wp2_with fail
  refine (zzuv_good d a l (bf d a) _ (by omega) ha (fun i h => bf_get d a i h) (bf_lt d a) HG).mono ?_
  rintro e w3 ⟨rfl, hw3⟩
  subst w3
  rw [← HV.out]
  clear HG
  go_wp2_with fail
  refine (zzdecode d { data := #[] } 255 a (4 + (x : Int)) HD1 _).mono ?_
  rintro e w1 ⟨rfl, hb1⟩
  have H1 : Hid (Below w'.heap.size w' w1) := hb1
  clear hb1
  go_wp2_with fail
  refine (zzdecode (p ++ d) { data := #[] } 255 (a + p.size) (4 + (x : Int)) HD2 _).mono ?_
  rintro e w2 ⟨rfl, hb2⟩
  have H2 : Hid (Below w'.heap.size w' w2) := H1.out.trans (hb2.mono H1.out.size)
  clear hb2
  go_wp2
  go_ret
  exact ⟨rfl, H2.out⟩

end Go.Proofs.Qxb6614055a.Dec
