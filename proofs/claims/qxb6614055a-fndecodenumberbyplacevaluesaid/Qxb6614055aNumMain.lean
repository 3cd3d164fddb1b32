/-
  FnDecodeNumberByPlaceValue: every input.
-/
import Derived.Test.Qxb6614055aNumLaws2
namespace Go.Proofs.Qxb6614055a.Dec
open Go.ChangeShapes Go.WideShapes Go.ChangeAt Go.RowKit
open Plain

set_option maxHeartbeats 2000000 in
set_option maxRecDepth 100000 in
theorem num_big (d p q : ByteArray) (c a : Int) (w : World) (hd : d.size ≤ 9223372036854775807) (hp : p.size ≤ 9223372036854775807) (hq : q.size ≤ 9223372036854775807) (hsum : ¬ d.size + p.size + q.size ≤ 1048576) :
    Calls Try.prog 8 #[.string d, .int .u8 c, .int .i64 a, .string p, .string q] w fun e w' => e = .returned (.bool true) ∧ Below w.heap.size w w' := by
  go_enter Try.func8, Try.ntmps8
  go_wp2_with fail
  refine (bytes_num d p q c a w hd hp hq).mono ?_
  rintro e w' ⟨rfl, rfl⟩
  rw [decide_eq_false hsum]
  clear hsum
  go_wp2
  go_ret
  exact ⟨rfl, Below.refl _ _⟩

set_option maxHeartbeats 2000000 in
set_option maxRecDepth 100000 in
theorem num_other (d p q : ByteArray) (c a : Int) (w : World) (hsum : d.size + p.size + q.size ≤ 1048576) (hc : 19 < c) :
    Calls Try.prog 8 #[.string d, .int .u8 c, .int .i64 a, .string p, .string q] w fun e w' => e = .returned (.bool true) ∧ Below w.heap.size w w' := by
  go_enter Try.func8, Try.ntmps8
  go_wp2_with fail
  refine (bytes_num d p q c a w (by omega) (by omega) (by omega)).mono ?_
  rintro e w' ⟨rfl, rfl⟩
  rw [decide_eq_true hsum]
  go_wp2
  go_ret
  exact ⟨rfl, Below.refl _ _⟩

set_option maxHeartbeats 2000000 in
set_option maxRecDepth 100000 in
theorem num_before (d p q : ByteArray) (c a : Int) (w : World) (hsum : d.size + p.size + q.size ≤ 1048576) (hc : c ≤ 19) (ha : a < 0) :
    Calls Try.prog 8 #[.string d, .int .u8 c, .int .i64 a, .string p, .string q] w fun e w' => e = .returned (.bool true) ∧ Below w.heap.size w w' := by
  go_enter Try.func8, Try.ntmps8
  go_wp2_with fail
  refine (bytes_num d p q c a w (by omega) (by omega) (by omega)).mono ?_
  rintro e w' ⟨rfl, rfl⟩
  rw [decide_eq_true hsum]
  go_wp2
  go_ret
  exact ⟨rfl, Below.refl _ _⟩

set_option maxHeartbeats 2000000 in
set_option maxRecDepth 100000 in
theorem num_behind (d p q : ByteArray) (c a : Int) (w : World) (hsum : d.size + p.size + q.size ≤ 1048576) (hc : c ≤ 19) (ha : 0 ≤ a) (hb : (d.size : Int) < a) :
    Calls Try.prog 8 #[.string d, .int .u8 c, .int .i64 a, .string p, .string q] w fun e w' => e = .returned (.bool true) ∧ Below w.heap.size w w' := by
  have hd2 : decide (a < 0) = false := by simp; omega
  go_enter Try.func8, Try.ntmps8
  go_wp2_with fail
  refine (bytes_num d p q c a w (by omega) (by omega) (by omega)).mono ?_
  rintro e w' ⟨rfl, rfl⟩
  rw [decide_eq_true hsum]
  go_wp2
  go_ret
  exact ⟨rfl, Below.refl _ _⟩

theorem num_all (d p q : ByteArray) (c a : Int) (w : World) (hd : d.size ≤ 9223372036854775807) (hp : p.size ≤ 9223372036854775807) (hq : q.size ≤ 9223372036854775807) (hc : 0 ≤ c) :
    Calls Try.prog 8 #[.string d, .int .u8 c, .int .i64 a, .string p, .string q] w fun e w' => e = .returned (.bool true) ∧ Below w.heap.size w w' := by
  by_cases hsum : d.size + p.size + q.size ≤ 1048576
  · by_cases h19 : 19 < c
    · exact num_other d p q c a w hsum h19
    by_cases ha : a < 0
    · exact num_before d p q c a w hsum (by omega) ha
    by_cases hb : (d.size : Int) < a
    · exact num_behind d p q c a w hsum (by omega) (by omega) hb
    obtain ⟨a, rfl⟩ : ∃ n : Nat, a = (n : Int) := ⟨a.toNat, by omega⟩
    obtain ⟨n, rfl⟩ : ∃ n : Nat, c = (n : Int) := ⟨c.toNat, by omega⟩
    have ha' : a ≤ d.size := by omega
    rcases (show n = 0 ∨ n = 9 ∨ (1 ≤ n ∧ n ≤ 8) ∨ n = 10 ∨ n = 11 ∨ (12 ≤ n ∧ n ≤ 19) by omega) with rfl | rfl | ⟨h1, h8⟩ | rfl | rfl | ⟨h1, h8⟩
    · exact num_null d p q a w hsum ha'
    · exact num_zero d p q a w hsum ha'
    · by_cases hr : d.size < a + n
      · exact num_int_short d p q a n w hsum ha' h1 h8 hr
      · exact num_int d p q a n w hsum ha' h1 h8 (by omega)
    · by_cases hr : d.size < a + 8
      · exact num_above_short d p q a w hsum ha' hr
      · exact num_above d p q a w hsum ha' (by omega)
    · by_cases hr : d.size < a + 1 + 8
      · exact num_time_short d p q a w hsum ha' hr
      · have ha0 : a < d.size := by omega
        by_cases hx : d[a].toNat < 8
        · exact num_time d p q a w hsum ha' (by omega) ha0 hx
        · exact num_time_far d p q a w hsum ha' (by omega) ha0 (by omega)
    · by_cases hr : d.size < a + 1 + (n - 11)
      · exact num_dec_short d p q a n w hsum ha' h1 h8 hr
      · have ha0 : a < d.size := by omega
        by_cases hx : d[a].toNat < 31
        · exact num_dec d p q a n w hsum ha' h1 h8 (by omega) ha0 hx
        · exact num_dec_far d p q a n w hsum ha' h1 h8 (by omega) ha0 (by omega)
  · exact num_big d p q c a w hd hp hq hsum
end Go.Proofs.Qxb6614055a.Dec
