/-
  FnDecodeTextBySpan at code 20.
-/
import Derived.Test.Qxb6614055aDecText
namespace Go.Proofs.Qxb6614055a.Dec
open Go.ChangeShapes Go.WideShapes Go.ChangeAt Go.RowKit
open Plain
set_option linter.unusedVariables false

theorem cat_ext (p d : ByteArray) (x y : Nat) : (p ++ d).extract (x + p.size) (y + p.size) = d.extract x y := by
  rw [Nat.add_comm x, Nat.add_comm y]
  exact ByteArray.extract_append_size_add

theorem cat_ext' (p d : ByteArray) (x y u v : Nat) (hu : u = x + p.size) (hv : v = y + p.size) : (p ++ d).extract u v = d.extract x y := by
  subst hu hv
  exact cat_ext p d x y

theorem ext_get (d : ByteArray) (a : Nat) : ∀ i (h : i < (d.extract a d.size).size), (d.extract a d.size)[i].toNat = bf d a i := by
  intro i h
  have h' : a + i < d.size := by simp at h; omega
  rw [ByteArray.getElem_extract, bf_get d a i h']

theorem ext_size (d : ByteArray) (a : Nat) : (d.extract a d.size).size = d.size - a := by simp

theorem cat2_size (p d : ByteArray) : (p ++ d).size = p.size + d.size := by simp

theorem cat_tail (p d : ByteArray) (a : Nat) : (p ++ d).extract (a + p.size) (p ++ d).size = d.extract a d.size := by
  rw [cat2_size, Nat.add_comm p.size d.size, cat_ext]

theorem cat_ext_get (p d : ByteArray) (a : Nat) : ∀ i (h : i < ((p ++ d).extract (a + p.size) (p ++ d).size).size), ((p ++ d).extract (a + p.size) (p ++ d).size)[i].toNat = bf d a i := by
  rw [cat_tail]
  exact ext_get d a

theorem cat_ext_size (p d : ByteArray) (a : Nat) : ((p ++ d).extract (a + p.size) (p ++ d).size).size = d.size - a := by rw [cat_tail, ext_size]

theorem bytes_txt (d p : ByteArray) (c a : Int) (w : World) (hd : d.size ≤ 9223372036854775807) (hp : p.size ≤ 9223372036854775807) :
    Calls Try.prog 24 #[.string d, .int .u8 c, .int .i64 a, .string p] w fun e w' => e = .returned (.bool (decide (d.size + p.size ≤ 1048576))) ∧ w' = w := by
  by_cases h : d.size + p.size ≤ 1048576
  · rw [decide_eq_true h]
    go_enter Try.func24, Try.ntmps24
    go_wp2
    go_ret
    exact ⟨rfl, rfl⟩
  · rw [decide_eq_false h]
    by_cases h1 : 1048576 < d.size
    · go_enter Try.func24, Try.ntmps24
      go_wp2
      go_ret
      exact ⟨rfl, rfl⟩
    by_cases h2 : 1048576 < p.size
    · go_enter Try.func24, Try.ntmps24
      go_wp2
      go_ret
      exact ⟨rfl, rfl⟩
    go_enter Try.func24, Try.ntmps24
    go_wp2
    go_ret
    exact ⟨rfl, rfl⟩

set_option maxHeartbeats 2000000 in
set_option maxRecDepth 100000 in
theorem txt_big_far (d p : ByteArray) (a : Nat) (l V : Nat) (w : World) (hsum : d.size + p.size ≤ 1048576) (ha : a ≤ d.size) (HG : Hid (GoodUv (bf d a) (d.size - a) l)) (HV : Hid (V = vl (bf d a) (l + 1))) (hl : l < 10) (hlm : a + l < d.size) (hV : V < 18446744073709551616) (hr : d.size < a + (l + 1) + V) :
    Calls Try.prog 9 #[.string d, .int .u8 20, .int .i64 a, .string p] w fun e w' => e = .returned (.bool true) ∧ Below w.heap.size w w' := by
  go_enter Try.func9, Try.ntmps9
  go_wp2_with fail
  refine (bytes_txt d p 20 a w (by omega) (by omega)).mono ?_
  rintro e w' ⟨rfl, rfl⟩
  rw [decide_eq_true hsum]
  go_wp2_with fail
  refine (zzuv_good d a l (bf d a) _ (by omega) ha (fun i h => bf_get d a i h) (bf_lt d a) HG).mono ?_
  rintro e w3 ⟨rfl, hw3⟩
  subst w3
  rw [← HV.out]
  clear HG
  go_wp2
  go_ret
  exact ⟨rfl, Below.refl _ _⟩

set_option maxHeartbeats 2000000 in
set_option maxRecDepth 100000 in
theorem txt_big (d p : ByteArray) (a : Nat) (l V : Nat) (T : ByteArray) (w : World) (hsum : d.size + p.size ≤ 1048576) (ha : a ≤ d.size) (HG : Hid (GoodUv (bf d a) (d.size - a) l)) (HV : Hid (V = vl (bf d a) (l + 1))) (hl : l < 10) (hlm : a + l < d.size) (hr : a + (l + 1) + V ≤ d.size) (hT : d.extract (a + (l + 1)) (a + (l + 1) + V) = T) :
    Calls Try.prog 9 #[.string d, .int .u8 20, .int .i64 a, .string p] w fun e w' => e = .returned (.bool true) ∧ Below w.heap.size w w' := by
  have HD1 : Hid (∀ w, Calls Try.prog 29 #[.string d, .int .u8 20, .int .i64 a] w fun e w' => e = .returned (.agg #[.string T, .int .i64 3]) ∧ Below w.heap.size w w') := fun w => by
    have h := dec_big d a l V (bf d a) w (by omega) ha HV hr (fun i h => ext_get d a i h) (bf_lt d a) (by unfold Hid; rw [ext_size]; exact HG.out)
    rw [hT] at h
    exact h
  have HD2 : Hid (∀ w, Calls Try.prog 29 #[.string (p ++ d), .int .u8 20, .int .i64 (a + p.size)] w fun e w' => e = .returned (.agg #[.string T, .int .i64 3]) ∧ Below w.heap.size w w') := fun w => by
    rw [show ((a : Int) + (p.size : Int)) = ((a + p.size : Nat) : Int) from by omega]
    have h := dec_big (p ++ d) (a + p.size) l V (bf d a) w (by rw [cat2_size]; omega) (by rw [cat2_size]; omega) HV (by rw [cat2_size]; omega) (fun i h => cat_ext_get p d a i h) (bf_lt d a) (by unfold Hid; rw [cat_ext_size]; exact HG.out)
    rw [cat_ext' p d (a + (l + 1)) (a + (l + 1) + V) _ _ (by omega) (by omega), hT] at h
    exact h
  go_enter Try.func9, Try.ntmps9
  go_wp2_with fail
  refine (bytes_txt d p 20 a w (by omega) (by omega)).mono ?_
  rintro e w' ⟨rfl, rfl⟩
  rw [decide_eq_true hsum]
  go_wp2_with fail
  refine (zzuv_good d a l (bf d a) _ (by omega) ha (fun i h => bf_get d a i h) (bf_lt d a) HG).mono ?_
  rintro e w3 ⟨rfl, hw3⟩
  subst w3
  rw [← HV.out]
  clear HG
  go_wp2_with fail
  refine (zzdecode d T 20 a 3 HD1 _).mono ?_
  rintro e w1 ⟨rfl, hb1⟩
  have H1 : Hid (Below w'.heap.size w' w1) := hb1
  clear hb1
  go_wp2_with fail
  refine (zzdecode (p ++ d) T 20 (a + p.size) 3 HD2 _).mono ?_
  rintro e w2 ⟨rfl, hb2⟩
  have H2 : Hid (Below w'.heap.size w' w2) := H1.out.trans (hb2.mono H1.out.size)
  clear hb2
  go_wp2
  go_ret
  exact ⟨rfl, H2.out⟩

set_option maxHeartbeats 2000000 in
set_option maxRecDepth 100000 in
theorem txt_big_none (d p : ByteArray) (a : Nat) (w : World) (hsum : d.size + p.size ≤ 1048576) (ha : a ≤ d.size) (HG : Hid (∀ l, ¬ GoodUv (bf d a) (d.size - a) l)) :
    Calls Try.prog 9 #[.string d, .int .u8 20, .int .i64 a, .string p] w fun e w' => e = .returned (.bool true) ∧ Below w.heap.size w w' := by
  have HD1 : Hid (∀ w, Calls Try.prog 29 #[.string d, .int .u8 20, .int .i64 a] w fun e w' => e = .returned (.agg #[.string ByteArray.empty, .int .i64 3]) ∧ Below w.heap.size w w') := fun w => by
    exact dec_big_none d a (bf d a) w (by omega) ha (fun i h => ext_get d a i h) (bf_lt d a) (by unfold Hid; rw [ext_size]; exact HG.out)
  have HD2 : Hid (∀ w, Calls Try.prog 29 #[.string (p ++ d), .int .u8 20, .int .i64 (a + p.size)] w fun e w' => e = .returned (.agg #[.string ByteArray.empty, .int .i64 3]) ∧ Below w.heap.size w w') := fun w => by
    rw [show ((a : Int) + (p.size : Int)) = ((a + p.size : Nat) : Int) from by omega]
    exact dec_big_none (p ++ d) (a + p.size) (bf d a) w (by rw [cat2_size]; omega) (by rw [cat2_size]; omega) (fun i h => cat_ext_get p d a i h) (bf_lt d a) (by unfold Hid; rw [cat_ext_size]; exact HG.out)
  go_enter Try.func9, Try.ntmps9
  go_wp2_with fail
  refine (bytes_txt d p 20 a w (by omega) (by omega)).mono ?_
  rintro e w' ⟨rfl, rfl⟩
  rw [decide_eq_true hsum]
  go_wp2_with fail
  refine (zzuv_none d a (bf d a) _ (by omega) ha (fun i h => bf_get d a i h) (bf_lt d a) HG).mono ?_
  rintro e w3 ⟨rfl, hw3⟩
  subst w3
  clear HG
  go_wp2_with fail
  refine (zzdecode d ByteArray.empty 20 a 3 HD1 _).mono ?_
  rintro e w1 ⟨rfl, hb1⟩
  have H1 : Hid (Below w'.heap.size w' w1) := hb1
  clear hb1
  go_wp2_with fail
  refine (zzdecode (p ++ d) ByteArray.empty 20 (a + p.size) 3 HD2 _).mono ?_
  rintro e w2 ⟨rfl, hb2⟩
  have H2 : Hid (Below w'.heap.size w' w2) := H1.out.trans (hb2.mono H1.out.size)
  clear hb2
  go_wp2
  go_ret
  exact ⟨rfl, H2.out⟩

end Go.Proofs.Qxb6614055a.Dec
