/-
  FnDecodeNumberByPlaceValue, code by code (0, 9, 1 to 8, 10).
-/
import Derived.Test.Qxb6614055aDecNum
namespace Go.Proofs.Qxb6614055a.Dec
open Go.ChangeShapes Go.WideShapes Go.ChangeAt Go.RowKit
open Plain

theorem cat_get (p d q : ByteArray) (j : Nat) (h : j < d.size) (h' : j + p.size < (p ++ d ++ q).size) : (p ++ d ++ q)[j + p.size] = d[j] := by
  have e : (p ++ d ++ q).data = p.data ++ d.data ++ q.data := by simp
  show (p ++ d ++ q).data[j + p.size] = d.data[j]
  have h1 : j + p.size < (p.data ++ d.data).size := by simp; omega
  have h2 : p.data.size = p.size := rfl
  simp only [e, Array.getElem_append_left h1]
  rw [Array.getElem_append_right (by omega)]
  congr 1
  omega

theorem bytes_num (d p q : ByteArray) (c a : Int) (w : World) (hd : d.size ≤ 9223372036854775807) (hp : p.size ≤ 9223372036854775807) (hq : q.size ≤ 9223372036854775807) :
    Calls Try.prog 21 #[.string d, .int .u8 c, .int .i64 a, .string p, .string q] w fun e w' => e = .returned (.bool (decide (d.size + p.size + q.size ≤ 1048576))) ∧ w' = w := by
  by_cases h : d.size + p.size + q.size ≤ 1048576
  · rw [decide_eq_true h]
    go_enter Try.func21, Try.ntmps21
    go_wp2
    go_ret
    exact ⟨rfl, rfl⟩
  · rw [decide_eq_false h]
    by_cases h1 : 1048576 < d.size
    · go_enter Try.func21, Try.ntmps21
      go_wp2
      go_ret
      exact ⟨rfl, rfl⟩
    by_cases h2 : 1048576 < p.size
    · go_enter Try.func21, Try.ntmps21
      go_wp2
      go_ret
      exact ⟨rfl, rfl⟩
    by_cases h3 : 1048576 < d.size + p.size
    · go_enter Try.func21, Try.ntmps21
      go_wp2
      go_ret
      exact ⟨rfl, rfl⟩
    by_cases h4 : 1048576 < q.size
    · go_enter Try.func21, Try.ntmps21
      go_wp2
      go_ret
      exact ⟨rfl, rfl⟩
    go_enter Try.func21, Try.ntmps21
    go_wp2
    go_ret
    exact ⟨rfl, rfl⟩

set_option linter.unusedVariables false
/-- Byte o + i of d, as a number. -/
def bf (d : ByteArray) (o i : Nat) : Nat := if h : o + i < d.size then d[o + i].toNat else 0
theorem bf_lt (d : ByteArray) (o i : Nat) : bf d o i < 256 := by
  unfold bf
  split
  · exact UInt8.toNat_lt _
  · omega
theorem bf_get (d : ByteArray) (o i : Nat) (h : o + i < d.size) : d[o + i].toNat = bf d o i := by
  unfold bf; rw [dif_pos h]
theorem cat_at (p d q : ByteArray) (k j : Nat) (hk : k = j + p.size) (h : j < d.size) (h' : k < (p ++ d ++ q).size) : (p ++ d ++ q)[k] = d[j] := by
  subst hk
  exact cat_get p d q j h h'
theorem cat_bf (p d q : ByteArray) (a x i : Nat) (hx : x = a + p.size) (h : a + i < d.size) (h' : x + i < (p ++ d ++ q).size) : (p ++ d ++ q)[x + i].toNat = bf d a i := by
  rw [cat_at p d q (x + i) (a + i) (by omega) h h', bf_get]
theorem ret_true {b : Bool} (h : b = true) : Ending.returned (.bool b) = .returned (.bool true) := by rw [h]
theorem mk1_get (x : Nat) (hx : x < 256) (h : 0 < (mk1 x).size) : (mk1 x)[0].toNat = x := by
  show (UInt8.ofNat x).toNat = x
  simp; omega
theorem cat_size (p d q : ByteArray) : (p ++ d ++ q).size = p.size + d.size + q.size := by simp

set_option maxHeartbeats 2000000 in
set_option maxRecDepth 100000 in
theorem num_null (d p q : ByteArray) (a : Nat) (w : World) (hsum : d.size + p.size + q.size ≤ 1048576) (ha : a ≤ d.size) :
    Calls Try.prog 8 #[.string d, .int .u8 0, .int .i64 a, .string p, .string q] w fun e w' => e = .returned (.bool true) ∧ Below w.heap.size w w' := by
  have HD1 : Hid (∀ w, Calls Try.prog 29 #[.string d, .int .u8 0, .int .i64 a] w fun e w' => e = .returned (.agg #[.string { data := #[] }, .int .i64 0]) ∧ Below w.heap.size w w') := fun w => dec_null d a w
  have HD2 : Hid (∀ w, Calls Try.prog 29 #[.string (p ++ d ++ q), .int .u8 0, .int .i64 (a + p.size)] w fun e w' => e = .returned (.agg #[.string { data := #[] }, .int .i64 0]) ∧ Below w.heap.size w w') := fun w => by
    rw [show ((a : Int) + (p.size : Int)) = ((a + p.size : Nat) : Int) from by omega]
    exact dec_null _ _ w
  go_enter Try.func8, Try.ntmps8
  go_wp2_with fail
  refine (bytes_num d p q 0 a w (by omega) (by omega) (by omega)).mono ?_
  rintro e w' ⟨rfl, rfl⟩
  rw [decide_eq_true hsum]
  go_wp2_with fail
  refine (zzdecode d { data := #[] } 0 a 0 HD1 _).mono ?_
  rintro e w1 ⟨rfl, hb1⟩
  have H1 : Hid (Below w'.heap.size w' w1) := hb1
  clear hb1
  go_wp2_with fail
  refine (zzdecode (p ++ d ++ q) { data := #[] } 0 (a + p.size) 0 HD2 _).mono ?_
  rintro e w2 ⟨rfl, hb2⟩
  have H2 : Hid (Below w'.heap.size w' w2) := H1.out.trans (hb2.mono H1.out.size)
  clear hb2
  go_wp2
  go_ret
  exact ⟨ret_true rfl, H2.out⟩

set_option maxHeartbeats 2000000 in
set_option maxRecDepth 100000 in
theorem num_zero (d p q : ByteArray) (a : Nat) (w : World) (hsum : d.size + p.size + q.size ≤ 1048576) (ha : a ≤ d.size) :
    Calls Try.prog 8 #[.string d, .int .u8 9, .int .i64 a, .string p, .string q] w fun e w' => e = .returned (.bool true) ∧ Below w.heap.size w w' := by
  have HD1 : Hid (∀ w, Calls Try.prog 29 #[.string d, .int .u8 9, .int .i64 a] w fun e w' => e = .returned (.agg #[.string { data := #[0] }, .int .i64 0]) ∧ Below w.heap.size w w') := fun w => dec_zero d a w
  have HD2 : Hid (∀ w, Calls Try.prog 29 #[.string (p ++ d ++ q), .int .u8 9, .int .i64 (a + p.size)] w fun e w' => e = .returned (.agg #[.string { data := #[0] }, .int .i64 0]) ∧ Below w.heap.size w w') := fun w => by
    rw [show ((a : Int) + (p.size : Int)) = ((a + p.size : Nat) : Int) from by omega]
    exact dec_zero _ _ w
  go_enter Try.func8, Try.ntmps8
  go_wp2_with fail
  refine (bytes_num d p q 9 a w (by omega) (by omega) (by omega)).mono ?_
  rintro e w' ⟨rfl, rfl⟩
  rw [decide_eq_true hsum]
  go_wp2_with fail
  refine (zzdecode d { data := #[0] } 9 a 0 HD1 _).mono ?_
  rintro e w1 ⟨rfl, hb1⟩
  have H1 : Hid (Below w'.heap.size w' w1) := hb1
  clear hb1
  go_wp2_with fail
  refine (zzdecode (p ++ d ++ q) { data := #[0] } 9 (a + p.size) 0 HD2 _).mono ?_
  rintro e w2 ⟨rfl, hb2⟩
  have H2 : Hid (Below w'.heap.size w' w2) := H1.out.trans (hb2.mono H1.out.size)
  clear hb2
  go_wp2
  go_ret
  exact ⟨ret_true (by unfold wrap64; decide), H2.out⟩

set_option maxHeartbeats 2000000 in
set_option maxRecDepth 100000 in
theorem num_int_short (d p q : ByteArray) (a : Nat) (n : Nat) (w : World) (hsum : d.size + p.size + q.size ≤ 1048576) (ha : a ≤ d.size) (h1 : 1 ≤ n) (h8 : n ≤ 8) (hr : d.size < a + n) :
    Calls Try.prog 8 #[.string d, .int .u8 n, .int .i64 a, .string p, .string q] w fun e w' => e = .returned (.bool true) ∧ Below w.heap.size w w' := by
  have e0 : ((n : Int) == 0) = false := by simp; omega
  go_enter Try.func8, Try.ntmps8
  go_wp2_with fail
  refine (bytes_num d p q n a w (by omega) (by omega) (by omega)).mono ?_
  rintro e w' ⟨rfl, rfl⟩
  rw [decide_eq_true hsum]
  go_wp2
  go_ret
  exact ⟨rfl, Below.refl _ _⟩

set_option maxHeartbeats 2000000 in
set_option maxRecDepth 100000 in
theorem num_int (d p q : ByteArray) (a : Nat) (n : Nat) (w : World) (hsum : d.size + p.size + q.size ≤ 1048576) (ha : a ≤ d.size) (h1 : 1 ≤ n) (h8 : n ≤ 8) (hr : a + n ≤ d.size) :
    Calls Try.prog 8 #[.string d, .int .u8 n, .int .i64 a, .string p, .string q] w fun e w' => e = .returned (.bool true) ∧ Below w.heap.size w w' := by
  have e0 : ((n : Int) == 0) = false := by simp; omega
  obtain ⟨v, HV⟩ : ∃ v, Hid (v = sv (fun k => bf d a (n - 1 - k)) n) := ⟨_, rfl⟩
  have HD1 : Hid (∀ w, Calls Try.prog 29 #[.string d, .int .u8 n, .int .i64 a] w fun e w' => e = .returned (.agg #[.string { data := #[0] }, .int .i64 v]) ∧ Below w.heap.size w w') := fun w => dec_int d a n (bf d a) v HV w h1 h8 hr (by omega) (fun i h _ => bf_get d _ i h) (fun i => bf_lt d _ i)
  have HD2 : Hid (∀ w, Calls Try.prog 29 #[.string (p ++ d ++ q), .int .u8 n, .int .i64 (a + p.size)] w fun e w' => e = .returned (.agg #[.string { data := #[0] }, .int .i64 v]) ∧ Below w.heap.size w w') := fun w => by
    rw [show ((a : Int) + (p.size : Int)) = ((a + p.size : Nat) : Int) from by omega]
    exact dec_int _ _ n (bf d a) v HV w h1 h8 (by rw [cat_size]; omega) (by rw [cat_size]; omega) (fun i h _ => cat_bf p d q _ _ i (by omega) (by omega) h) (fun i => bf_lt d _ i)
  go_enter Try.func8, Try.ntmps8
  go_wp2_with fail
  refine (bytes_num d p q n a w (by omega) (by omega) (by omega)).mono ?_
  rintro e w' ⟨rfl, rfl⟩
  rw [decide_eq_true hsum]
  go_wp2_with fail
  refine (place_core d a n (bf d a) v HV _ _ _ (by omega) (by omega) (by omega) (by omega) (by omega) (by omega) (fun i h _ => bf_get d _ i h) (bf_lt d _)).mono ?_
  rintro e w3 ⟨rfl, hw3⟩
  subst w3
  go_wp2_with fail
  refine (zzdecode d { data := #[0] } n a v HD1 _).mono ?_
  rintro e w1 ⟨rfl, hb1⟩
  have H1 : Hid (Below w'.heap.size w' w1) := hb1
  clear hb1
  go_wp2_with fail
  refine (zzdecode (p ++ d ++ q) { data := #[0] } n (a + p.size) v HD2 _).mono ?_
  rintro e w2 ⟨rfl, hb2⟩
  have H2 : Hid (Below w'.heap.size w' w2) := H1.out.trans (hb2.mono H1.out.size)
  clear hb2
  go_wp2
  go_ret
  exact ⟨ret_true (by unfold wrap64; decide), H2.out⟩

set_option maxHeartbeats 2000000 in
set_option maxRecDepth 100000 in
theorem num_above_short (d p q : ByteArray) (a : Nat) (w : World) (hsum : d.size + p.size + q.size ≤ 1048576) (ha : a ≤ d.size) (hr : d.size < a + 8) :
    Calls Try.prog 8 #[.string d, .int .u8 10, .int .i64 a, .string p, .string q] w fun e w' => e = .returned (.bool true) ∧ Below w.heap.size w w' := by
  go_enter Try.func8, Try.ntmps8
  go_wp2_with fail
  refine (bytes_num d p q 10 a w (by omega) (by omega) (by omega)).mono ?_
  rintro e w' ⟨rfl, rfl⟩
  rw [decide_eq_true hsum]
  go_wp2
  go_ret
  exact ⟨rfl, Below.refl _ _⟩

set_option maxHeartbeats 2000000 in
set_option maxRecDepth 100000 in
theorem num_above (d p q : ByteArray) (a : Nat) (w : World) (hsum : d.size + p.size + q.size ≤ 1048576) (ha : a ≤ d.size) (hr : a + 8 ≤ d.size) :
    Calls Try.prog 8 #[.string d, .int .u8 10, .int .i64 a, .string p, .string q] w fun e w' => e = .returned (.bool true) ∧ Below w.heap.size w w' := by
  obtain ⟨v, HV⟩ : ∃ v, Hid (v = sv (fun k => bf d a (8 - 1 - k)) 8) := ⟨_, rfl⟩
  have HD1 : Hid (∀ w, Calls Try.prog 29 #[.string d, .int .u8 10, .int .i64 a] w fun e w' => e = .returned (.agg #[.string { data := #[1] }, .int .i64 v]) ∧ Below w.heap.size w w') := fun w => dec_above d a (bf d a) v HV w hr (by omega) (fun i h _ => bf_get d _ i h) (fun i => bf_lt d _ i)
  have HD2 : Hid (∀ w, Calls Try.prog 29 #[.string (p ++ d ++ q), .int .u8 10, .int .i64 (a + p.size)] w fun e w' => e = .returned (.agg #[.string { data := #[1] }, .int .i64 v]) ∧ Below w.heap.size w w') := fun w => by
    rw [show ((a : Int) + (p.size : Int)) = ((a + p.size : Nat) : Int) from by omega]
    exact dec_above _ _ (bf d a) v HV w (by rw [cat_size]; omega) (by rw [cat_size]; omega) (fun i h _ => cat_bf p d q _ _ i (by omega) (by omega) h) (fun i => bf_lt d _ i)
  go_enter Try.func8, Try.ntmps8
  go_wp2_with fail
  refine (bytes_num d p q 10 a w (by omega) (by omega) (by omega)).mono ?_
  rintro e w' ⟨rfl, rfl⟩
  rw [decide_eq_true hsum]
  go_wp2_with fail
  refine (place_core d a 8 (bf d a) v HV _ _ _ (by omega) (by omega) (by omega) (by omega) (by omega) (by omega) (fun i h _ => bf_get d _ i h) (bf_lt d _)).mono ?_
  rintro e w3 ⟨rfl, hw3⟩
  subst w3
  go_wp2_with fail
  refine (zzdecode d { data := #[1] } 10 a v HD1 _).mono ?_
  rintro e w1 ⟨rfl, hb1⟩
  have H1 : Hid (Below w'.heap.size w' w1) := hb1
  clear hb1
  go_wp2_with fail
  refine (zzdecode (p ++ d ++ q) { data := #[1] } 10 (a + p.size) v HD2 _).mono ?_
  rintro e w2 ⟨rfl, hb2⟩
  have H2 : Hid (Below w'.heap.size w' w2) := H1.out.trans (hb2.mono H1.out.size)
  clear hb2
  go_wp2
  go_ret
  exact ⟨ret_true (by unfold wrap64; decide), H2.out⟩

end Go.Proofs.Qxb6614055a.Dec
