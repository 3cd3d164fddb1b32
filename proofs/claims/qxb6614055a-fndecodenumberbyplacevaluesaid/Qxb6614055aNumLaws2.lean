/-
  FnDecodeNumberByPlaceValue, code by code (11, 12 to 19).
-/
import Derived.Test.Qxb6614055aNumLaws
namespace Go.Proofs.Qxb6614055a.Dec
open Go.ChangeShapes Go.WideShapes Go.ChangeAt Go.RowKit
open Plain
set_option linter.unusedVariables false

set_option maxHeartbeats 2000000 in
set_option maxRecDepth 100000 in
theorem num_time_short (d p q : ByteArray) (a : Nat) (w : World) (hsum : d.size + p.size + q.size ≤ 1048576) (ha : a ≤ d.size) (hr : d.size < a + 1 + 8) :
    Calls Try.prog 8 #[.string d, .int .u8 11, .int .i64 a, .string p, .string q] w fun e w' => e = .returned (.bool true) ∧ Below w.heap.size w w' := by
  go_enter Try.func8, Try.ntmps8
  go_wp2_with fail
  refine (bytes_num d p q 11 a w (by omega) (by omega) (by omega)).mono ?_
  rintro e w' ⟨rfl, rfl⟩
  rw [decide_eq_true hsum]
  go_wp2
  go_ret
  exact ⟨rfl, Below.refl _ _⟩

set_option maxHeartbeats 2000000 in
set_option maxRecDepth 100000 in
theorem num_time_far (d p q : ByteArray) (a : Nat) (w : World) (hsum : d.size + p.size + q.size ≤ 1048576) (ha : a ≤ d.size) (hr : a + 1 + 8 ≤ d.size) (ha0 : a < d.size) (hx : 8 ≤ d[a].toNat) :
    Calls Try.prog 8 #[.string d, .int .u8 11, .int .i64 a, .string p, .string q] w fun e w' => e = .returned (.bool true) ∧ Below w.heap.size w w' := by
  have hx1 : d[a].toNat < 256 := UInt8.toNat_lt _
  go_enter Try.func8, Try.ntmps8
  go_wp2_with fail
  refine (bytes_num d p q 11 a w (by omega) (by omega) (by omega)).mono ?_
  rintro e w' ⟨rfl, rfl⟩
  rw [decide_eq_true hsum]
  go_wp2
  go_ret
  exact ⟨rfl, Below.refl _ _⟩

set_option maxHeartbeats 2000000 in
set_option maxRecDepth 100000 in
theorem num_time (d p q : ByteArray) (a : Nat) (w : World) (hsum : d.size + p.size + q.size ≤ 1048576) (ha : a ≤ d.size) (hr : a + 1 + 8 ≤ d.size) (ha0 : a < d.size) (hx : d[a].toNat < 8) :
    Calls Try.prog 8 #[.string d, .int .u8 11, .int .i64 a, .string p, .string q] w fun e w' => e = .returned (.bool true) ∧ Below w.heap.size w w' := by
  obtain ⟨x, HQ⟩ : ∃ x : Nat, Hid (d[a].toNat = x) := ⟨d[a].toNat, by unfold Hid; rfl⟩
  have hq' := HQ.out
  have hx0 : x < 8 := by rw [← hq']; exact hx
  have hz : (mk1 (2 + x)).size = 1 := rfl
  obtain ⟨v, HV⟩ : ∃ v, Hid (v = sv (fun k => bf d (a + 1) (8 - 1 - k)) 8) := ⟨_, rfl⟩
  have HD1 : Hid (∀ w, Calls Try.prog 29 #[.string d, .int .u8 11, .int .i64 a] w fun e w' => e = .returned (.agg #[.string (mk1 (2 + x)), .int .i64 v]) ∧ Below w.heap.size w w') := fun w => dec_time d a x (bf d (a + 1)) v HV w hr (by omega) (fun i h _ => bf_get d _ i h) (fun i => bf_lt d _ i) ha0 HQ hx0
  have HD2 : Hid (∀ w, Calls Try.prog 29 #[.string (p ++ d ++ q), .int .u8 11, .int .i64 (a + p.size)] w fun e w' => e = .returned (.agg #[.string (mk1 (2 + x)), .int .i64 v]) ∧ Below w.heap.size w w') := fun w => by
    rw [show ((a : Int) + (p.size : Int)) = ((a + p.size : Nat) : Int) from by omega]
    exact dec_time _ _ x (bf d (a + 1)) v HV w (by rw [cat_size]; omega) (by rw [cat_size]; omega) (fun i h _ => cat_bf p d q (a + 1) _ i (by omega) (by omega) h) (fun i => bf_lt d _ i) (by rw [cat_size]; omega) (by unfold Hid; rw [cat_at p d q _ a rfl ha0]; exact hq') hx0
  go_enter Try.func8, Try.ntmps8
  go_wp2_with fail
  refine (bytes_num d p q 11 a w (by omega) (by omega) (by omega)).mono ?_
  rintro e w' ⟨rfl, rfl⟩
  rw [decide_eq_true hsum]
  go_wp2_with fail
  refine (place_core d (a + 1) 8 (bf d (a + 1)) v HV _ _ _ (by omega) (by omega) (by omega) (by omega) (by omega) (by omega) (fun i h _ => bf_get d _ i h) (bf_lt d _)).mono ?_
  rintro e w3 ⟨rfl, hw3⟩
  subst w3
  go_wp2_with fail
  refine (zzdecode d (mk1 (2 + x)) 11 a v HD1 _).mono ?_
  rintro e w1 ⟨rfl, hb1⟩
  have H1 : Hid (Below w'.heap.size w' w1) := hb1
  clear hb1
  go_wp2_with fail
  refine (zzdecode (p ++ d ++ q) (mk1 (2 + x)) 11 (a + p.size) v HD2 _).mono ?_
  rintro e w2 ⟨rfl, hb2⟩
  have H2 : Hid (Below w'.heap.size w' w2) := H1.out.trans (hb2.mono H1.out.size)
  clear hb2
  go_wp2
  go_ret
  exact ⟨ret_true (by rw [mk1_get _ (by omega)]; unfold wrap64; simp; omega), H2.out⟩

set_option maxHeartbeats 2000000 in
set_option maxRecDepth 100000 in
theorem num_dec_short (d p q : ByteArray) (a : Nat) (c : Nat) (w : World) (hsum : d.size + p.size + q.size ≤ 1048576) (ha : a ≤ d.size) (h1 : 12 ≤ c) (h8 : c ≤ 19) (hr : d.size < a + 1 + (c - 11)) :
    Calls Try.prog 8 #[.string d, .int .u8 c, .int .i64 a, .string p, .string q] w fun e w' => e = .returned (.bool true) ∧ Below w.heap.size w w' := by
  go_enter Try.func8, Try.ntmps8
  go_wp2_with fail
  refine (bytes_num d p q c a w (by omega) (by omega) (by omega)).mono ?_
  rintro e w' ⟨rfl, rfl⟩
  rw [decide_eq_true hsum]
  go_wp2
  go_ret
  exact ⟨rfl, Below.refl _ _⟩

set_option maxHeartbeats 2000000 in
set_option maxRecDepth 100000 in
theorem num_dec_far (d p q : ByteArray) (a : Nat) (c : Nat) (w : World) (hsum : d.size + p.size + q.size ≤ 1048576) (ha : a ≤ d.size) (h1 : 12 ≤ c) (h8 : c ≤ 19) (hr : a + 1 + (c - 11) ≤ d.size) (ha0 : a < d.size) (hx : 31 ≤ d[a].toNat) :
    Calls Try.prog 8 #[.string d, .int .u8 c, .int .i64 a, .string p, .string q] w fun e w' => e = .returned (.bool true) ∧ Below w.heap.size w w' := by
  have hx1 : d[a].toNat < 256 := UInt8.toNat_lt _
  go_enter Try.func8, Try.ntmps8
  go_wp2_with fail
  refine (bytes_num d p q c a w (by omega) (by omega) (by omega)).mono ?_
  rintro e w' ⟨rfl, rfl⟩
  rw [decide_eq_true hsum]
  go_wp2
  go_ret
  exact ⟨rfl, Below.refl _ _⟩

set_option maxHeartbeats 2000000 in
set_option maxRecDepth 100000 in
theorem num_dec (d p q : ByteArray) (a : Nat) (c : Nat) (w : World) (hsum : d.size + p.size + q.size ≤ 1048576) (ha : a ≤ d.size) (h1 : 12 ≤ c) (h8 : c ≤ 19) (hr : a + 1 + (c - 11) ≤ d.size) (ha0 : a < d.size) (hx : d[a].toNat < 31) :
    Calls Try.prog 8 #[.string d, .int .u8 c, .int .i64 a, .string p, .string q] w fun e w' => e = .returned (.bool true) ∧ Below w.heap.size w w' := by
  obtain ⟨x, HQ⟩ : ∃ x : Nat, Hid (d[a].toNat = x) := ⟨d[a].toNat, by unfold Hid; rfl⟩
  have hq' := HQ.out
  have hx0 : x < 31 := by rw [← hq']; exact hx
  have hz : (mk1 (10 + x)).size = 1 := rfl
  obtain ⟨v, HV⟩ : ∃ v, Hid (v = sv (fun k => bf d (a + 1) ((c - 11) - 1 - k)) (c - 11)) := ⟨_, rfl⟩
  have HD1 : Hid (∀ w, Calls Try.prog 29 #[.string d, .int .u8 c, .int .i64 a] w fun e w' => e = .returned (.agg #[.string (mk1 (10 + x)), .int .i64 v]) ∧ Below w.heap.size w w') := fun w => dec_dec d a (c - 11) x (bf d (a + 1)) v HV w (by omega) (by omega) hr (by omega) (fun i h _ => bf_get d _ i h) (fun i => bf_lt d _ i) ha0 HQ hx0 _ (by omega)
  have HD2 : Hid (∀ w, Calls Try.prog 29 #[.string (p ++ d ++ q), .int .u8 c, .int .i64 (a + p.size)] w fun e w' => e = .returned (.agg #[.string (mk1 (10 + x)), .int .i64 v]) ∧ Below w.heap.size w w') := fun w => by
    rw [show ((a : Int) + (p.size : Int)) = ((a + p.size : Nat) : Int) from by omega]
    exact dec_dec _ _ (c - 11) x (bf d (a + 1)) v HV w (by omega) (by omega) (by rw [cat_size]; omega) (by rw [cat_size]; omega) (fun i h _ => cat_bf p d q (a + 1) _ i (by omega) (by omega) h) (fun i => bf_lt d _ i) (by rw [cat_size]; omega) (by unfold Hid; rw [cat_at p d q _ a rfl ha0]; exact hq') hx0 _ (by omega)
  go_enter Try.func8, Try.ntmps8
  go_wp2_with fail
  refine (bytes_num d p q c a w (by omega) (by omega) (by omega)).mono ?_
  rintro e w' ⟨rfl, rfl⟩
  rw [decide_eq_true hsum]
  go_wp2_with fail
  refine (place_core d (a + 1) (c - 11) (bf d (a + 1)) v HV _ _ _ (by omega) (by omega) (by omega) (by omega) (by omega) (by omega) (fun i h _ => bf_get d _ i h) (bf_lt d _)).mono ?_
  rintro e w3 ⟨rfl, hw3⟩
  subst w3
  go_wp2_with fail
  refine (zzdecode d (mk1 (10 + x)) c a v HD1 _).mono ?_
  rintro e w1 ⟨rfl, hb1⟩
  have H1 : Hid (Below w'.heap.size w' w1) := hb1
  clear hb1
  go_wp2_with fail
  refine (zzdecode (p ++ d ++ q) (mk1 (10 + x)) c (a + p.size) v HD2 _).mono ?_
  rintro e w2 ⟨rfl, hb2⟩
  have H2 : Hid (Below w'.heap.size w' w2) := H1.out.trans (hb2.mono H1.out.size)
  clear hb2
  go_wp2
  go_ret
  exact ⟨ret_true (by rw [mk1_get _ (by omega)]; unfold wrap64; simp; omega), H2.out⟩

end Go.Proofs.Qxb6614055a.Dec
