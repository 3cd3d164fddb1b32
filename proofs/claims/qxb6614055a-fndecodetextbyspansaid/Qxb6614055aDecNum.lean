/-
  decode at the number codes, ZZdecode: each by a contract.
-/
import Derived.Test.Qxb6614055aDecMakers
namespace Go.Proofs.Qxb6614055a.Dec
open Go.ChangeShapes Go.WideShapes Go.ChangeAt Go.RowKit
open Plain

theorem dec_null (s : ByteArray) (a : Int) (w : World) :
    Calls Try.prog 29 #[.string s, .int .u8 0, .int .i64 a] w fun e w' => e = .returned (.agg #[.string { data := #[] }, .int .i64 0]) ∧ Below w.heap.size w w' := by
  go_enter Try.func29, Try.ntmps29
  go_wp2
  exact bodyPost_ret (v := .agg #[.string { data := #[] }, .int .i64 0]) (by simp [results, Try.results29, go_sem]) rfl ⟨rfl, (Below.refl _ _).alloc (Nat.le_refl _) _⟩

theorem dec_zero (s : ByteArray) (a : Int) (w : World) :
    Calls Try.prog 29 #[.string s, .int .u8 9, .int .i64 a] w fun e w' => e = .returned (.agg #[.string { data := #[0] }, .int .i64 0]) ∧ Below w.heap.size w w' := by
  go_enter Try.func29, Try.ntmps29
  go_wp2_with (go_at_call 31; refine (intValue _ _).mono ?_; rintro e w' ⟨rfl, rfl⟩)
  exact bodyPost_ret (v := .agg #[.string { data := #[0] }, .int .i64 0]) (by simp [results, Try.results29, go_sem]) rfl ⟨rfl, ((Below.refl _ _).alloc (Nat.le_refl _) _).alloc (by simp) _⟩

theorem dec_int (s : ByteArray) (a n : Nat) (f : Nat → Nat) (v : Int) (HV : Hid (v = sv (fun k => f (n - 1 - k)) n)) (w : World) (h1 : 1 ≤ n) (h8 : n ≤ 8) (hfit : a + n ≤ s.size) (hs : s.size ≤ 4194304)
    (HF : Hid (∀ i (h : a + i < s.size), i < n → s[a + i].toNat = f i)) (HB : Hid (∀ i, f i < 256)) :
    Calls Try.prog 29 #[.string s, .int .u8 n, .int .i64 a] w fun e w' => e = .returned (.agg #[.string { data := #[0] }, .int .i64 v]) ∧ Below w.heap.size w w' := by
  have e0 : ((n : Int) == 0) = false := by simp; omega
  have e9 : ((n : Int) == 9) = false := by simp; omega
  go_enter Try.func29, Try.ntmps29
  go_wp2_with (first | (go_at_call 32; refine (readInt_core s a n f v HV _ _ _ (by omega) (by omega) h1 h8 hfit hs HF.out HB.out).mono ?_; rintro e w' ⟨rfl, rfl⟩) | (go_at_call 31; refine (intValue _ _).mono ?_; rintro e w' ⟨rfl, rfl⟩))
  exact bodyPost_ret (v := .agg #[.string { data := #[0] }, .int .i64 v]) (by simp [results, Try.results29, go_sem]) rfl ⟨rfl, ((Below.refl _ _).alloc (Nat.le_refl _) _).alloc (by simp) _⟩

theorem dec_above (s : ByteArray) (a : Nat) (f : Nat → Nat) (v : Int) (HV : Hid (v = sv (fun k => f (8 - 1 - k)) 8)) (w : World) (hfit : a + 8 ≤ s.size) (hs : s.size ≤ 4194304)
    (HF : Hid (∀ i (h : a + i < s.size), i < 8 → s[a + i].toNat = f i)) (HB : Hid (∀ i, f i < 256)) :
    Calls Try.prog 29 #[.string s, .int .u8 10, .int .i64 a] w fun e w' => e = .returned (.agg #[.string { data := #[1] }, .int .i64 v]) ∧ Below w.heap.size w w' := by
  go_enter Try.func29, Try.ntmps29
  go_wp2_with (first | (go_at_call 32; refine (readInt_core s a 8 f v HV _ _ _ (by omega) (by omega) (by omega) (by omega) hfit hs HF.out HB.out).mono ?_; rintro e w' ⟨rfl, rfl⟩) | (go_at_call 33; refine (aboveValue _ _).mono ?_; rintro e w' ⟨rfl, rfl⟩))
  exact bodyPost_ret (v := .agg #[.string { data := #[1] }, .int .i64 v]) (by simp [results, Try.results29, go_sem]) rfl ⟨rfl, ((Below.refl _ _).alloc (Nat.le_refl _) _).alloc (by simp) _⟩

set_option maxHeartbeats 1000000 in
theorem dec_time (s : ByteArray) (a q : Nat) (f : Nat → Nat) (v : Int) (HV : Hid (v = sv (fun k => f (8 - 1 - k)) 8)) (w : World) (hfit : a + 1 + 8 ≤ s.size) (hs : s.size ≤ 4194304)
    (HF : Hid (∀ i (h : a + 1 + i < s.size), i < 8 → s[a + 1 + i].toNat = f i)) (HB : Hid (∀ i, f i < 256)) (hlt : a < s.size) (HQ : Hid (s[a].toNat = q)) (hq : q < 8) :
    Calls Try.prog 29 #[.string s, .int .u8 11, .int .i64 a] w fun e w' => e = .returned (.agg #[.string (mk1 (2 + q)), .int .i64 v]) ∧ Below w.heap.size w w' := by
  have b0 : (0 : Int) ≤ (a : Int) := by omega
  have b1 : (a : Int) < (s.size : Int) := by omega
  have hq' := HQ.out
  have hw0 : IntKind.i64.wrap (q : Int) = (q : Int) := by rw [IntKind.wrap_i64]; omega
  have hw1 : IntKind.i64.wrap ((a : Int) + 1) = (a : Int) + 1 := by rw [IntKind.wrap_i64]; omega
  go_enter Try.func29, Try.ntmps29
  go_wp2
  go_region_held3 (fun w' => True) (trivial) (first | (go_at_call 32; refine (readInt_core s (a + 1) 8 f v HV _ _ _ (by omega) (by omega) (by omega) (by omega) hfit hs HF.out HB.out).mono ?_; rintro e w' ⟨rfl, rfl⟩) | (go_at_call 34; refine (timeValue _ q _ (by omega) hq _).mono ?_; rintro e w' ⟨rfl, rfl⟩))
  all_goals go_wp2
  all_goals exact bodyPost_ret (v := .agg #[.string (mk1 (2 + q)), .int .i64 v]) (by simp [results, Try.results29, go_sem]) rfl ⟨rfl, (((Below.refl _ _).alloc (Nat.le_refl _) _).alloc (by simp) _).drew⟩

set_option maxHeartbeats 1000000 in
theorem dec_dec (s : ByteArray) (a n q : Nat) (f : Nat → Nat) (v : Int) (HV : Hid (v = sv (fun k => f (n - 1 - k)) n)) (w : World) (h1 : 1 ≤ n) (h8 : n ≤ 8) (hfit : a + 1 + n ≤ s.size) (hs : s.size ≤ 4194304)
    (HF : Hid (∀ i (h : a + 1 + i < s.size), i < n → s[a + 1 + i].toNat = f i)) (HB : Hid (∀ i, f i < 256)) (hlt : a < s.size) (HQ : Hid (s[a].toNat = q)) (hq : q < 31) (C : Int) (hC : C = 11 + (n : Int)) :
    Calls Try.prog 29 #[.string s, .int .u8 C, .int .i64 a] w fun e w' => e = .returned (.agg #[.string (mk1 (10 + q)), .int .i64 v]) ∧ Below w.heap.size w w' := by
  have b0 : (0 : Int) ≤ (a : Int) := by omega
  have b1 : (a : Int) < (s.size : Int) := by omega
  have hq' := HQ.out
  have hw0 : IntKind.i64.wrap (q : Int) = (q : Int) := by rw [IntKind.wrap_i64]; omega
  have hw1 : IntKind.i64.wrap ((a : Int) + 1) = (a : Int) + 1 := by rw [IntKind.wrap_i64]; omega
  have hw2 : IntKind.u8.wrap (C - 12) = C - 12 := by rw [IntKind.wrap_u8]; omega
  have hw3 : IntKind.u8.wrap (C - 12 + 1) = C - 12 + 1 := by rw [IntKind.wrap_u8]; omega
  have hw4 : IntKind.i64.wrap (C - 12 + 1) = C - 12 + 1 := by rw [IntKind.wrap_i64]; omega
  have HC : Hid (C = 11 + (n : Int)) := hC
  have c1 : 12 ≤ C := by omega
  have c2 : C < 20 := by omega
  clear hC
  go_enter Try.func29, Try.ntmps29
  go_wp2
  go_region_held3 (fun w' => True) (trivial) (first | (go_at_call 32; refine (readInt_core s (a + 1) n f v HV _ _ _ (by omega) (by have := HC.out; omega) h1 h8 hfit hs HF.out HB.out).mono ?_; rintro e w' ⟨rfl, rfl⟩) | (go_at_call 35; refine (decValue _ q _ (by omega) hq _).mono ?_; rintro e w' ⟨rfl, rfl⟩))
  all_goals go_wp2
  all_goals exact bodyPost_ret (v := .agg #[.string (mk1 (10 + q)), .int .i64 v]) (by simp [results, Try.results29, go_sem]) rfl ⟨rfl, (((Below.refl _ _).alloc (Nat.le_refl _) _).alloc (by simp) _).drew⟩

/-- ZZdecode, out of decode. -/
theorem zzdecode (s S : ByteArray) (c a V : Int) (HD : Hid (∀ w, Calls Try.prog 29 #[.string s, .int .u8 c, .int .i64 a] w fun e w' => e = .returned (.agg #[.string S, .int .i64 V]) ∧ Below w.heap.size w w')) (w : World) :
    Calls Try.prog 23 #[.string s, .int .u8 c, .int .i64 a] w fun e w' => e = .returned (.tuple #[.string S, .int .i64 V]) ∧ Below w.heap.size w w' := by
  go_enter Try.func23, Try.ntmps23
  go_wp2_with fail
  refine (HD.out w).mono ?_
  rintro e w1 ⟨rfl, hb⟩
  have H : Hid (Below w.heap.size w w1) := hb
  clear hb
  go_wp2
  go_region
  all_goals go_wp2
  all_goals go_ret2
  all_goals exact ⟨rfl, (H.out.alloc H.out.size _).drew⟩

end Go.Proofs.Qxb6614055a.Dec
