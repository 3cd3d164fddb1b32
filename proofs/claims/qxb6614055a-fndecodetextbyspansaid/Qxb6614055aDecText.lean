/-
  stringValue, and decode at the text codes: each by a contract.
-/
import Derived.Test.Qxb6614055aRuv
namespace Go.Proofs.Qxb6614055a.Dec
open Go.ChangeShapes Go.WideShapes Go.ChangeAt Go.RowKit
open Plain

/-- T is the text of a mark, that of byte x. -/
def IsMk (T : ByteArray) (x : Nat) : Prop := T = mk1 x ∧ x < 41

theorem strv_mark (T : ByteArray) (x : Nat) (hm : IsMk T x) (w : World) :
    Calls Try.prog 37 #[.string T] w fun e w' => e = .returned (.agg #[.string { data := #[] }, .int .i64 (4 + (x : Int))]) ∧ Below w.heap.size w w' := by
  obtain ⟨rfl, hx⟩ := hm
  have hz : (mk1 x).size = 1 := rfl
  have hg : (mk1 x)[0].toNat = x := mk1_get x (by omega) (by rw [hz]; omega)
  go_enter Try.func37, Try.ntmps37
  go_wp2
  exact bodyPost_ret (v := .agg #[.string { data := #[] }, .int .i64 (4 + (x : Int))]) (by simp [results, Try.results37, go_sem]) rfl ⟨rfl, (Below.refl _ _).alloc (Nat.le_refl _) _⟩

theorem strv_plain (T : ByteArray) (hm : T.size = 1 → ∀ h : 0 < T.size, 41 ≤ T[0].toNat) (w : World) :
    Calls Try.prog 37 #[.string T] w fun e w' => e = .returned (.agg #[.string T, .int .i64 1]) ∧ Below w.heap.size w w' := by
  by_cases h1 : T.size = 1
  · have hlt : 0 < T.size := by omega
    have hg := hm h1 hlt
    have hg2 : T[0].toNat < 256 := UInt8.toNat_lt _
    have e1 : (((T.size : Nat) : Int) == 1) = true := by simp; omega
    clear hm h1
    go_enter Try.func37, Try.ntmps37
    go_wp2
    exact bodyPost_ret (v := .agg #[.string T, .int .i64 1]) (by simp [results, Try.results37, go_sem]) rfl ⟨rfl, (Below.refl _ _).alloc (Nat.le_refl _) _⟩
  · have e1 : (((T.size : Nat) : Int) == 1) = false := by simp; omega
    clear hm h1
    go_enter Try.func37, Try.ntmps37
    go_wp2
    exact bodyPost_ret (v := .agg #[.string T, .int .i64 1]) (by simp [results, Try.results37, go_sem]) rfl ⟨rfl, (Below.refl _ _).alloc (Nat.le_refl _) _⟩

/-- What the store into decode's own result behind a call wants: the block is there, may be written, and lies past what was. -/
theorem own_cells {w w1 : World} (hb : Below (w.alloc (.cells #[.string { data := #[] }, .int .i64 0] 66)).heap.size (w.alloc (.cells #[.string { data := #[] }, .int .i64 0] 66)) w1) :
    w1.cell? ⟨w.heap.size, 0, none⟩ = some (.string { data := #[] }) ∧ w1.cell? ⟨w.heap.size, 1, none⟩ = some (.int .i64 0) ∧ w1.frozen? ⟨w.heap.size, 0, none⟩ = false ∧ w1.frozen? ⟨w.heap.size, 1, none⟩ = false ∧ w.heap.size < w1.heap.size ∧ Below w.heap.size w w1 := by
  refine ⟨cell_later hb (by simp), cell_later hb (by simp), ?_, ?_, ?_, ((Below.refl _ _).alloc (Nat.le_refl _) _).trans (hb.mono (by simp))⟩
  · rw [hb.frozen (p := ⟨w.heap.size, 0, none⟩) (by simp)]; simp
  · rw [hb.frozen (p := ⟨w.heap.size, 1, none⟩) (by simp)]; simp
  · have := hb.size; simp at this; omega

/-- decode's own result, stored, reads as it was stored. -/
theorem own_stored {w1 : World} {B : Nat} {u0 u1 v0 v1 : Value} (q0 : w1.cell? ⟨B, 0, none⟩ = some u0) (q1 : w1.cell? ⟨B, 1, none⟩ = some u1) :
    (w1.setCell ⟨B, 0, none⟩ v0).cell? ⟨B, 0, none⟩ = some v0 ∧ ((w1.setCell ⟨B, 0, none⟩ v0).setCell ⟨B, 1, none⟩ v1).cell? ⟨B, 1, none⟩ = some v1 := by
  exact ⟨World.cell?_setCell_same _ _ _ q0, World.cell?_setCell_same _ _ _ ((World.cell?_setCell_other _ _ _ _ (by simp)).trans q1)⟩

/-- decode at 21 to 254, out of stringValue. -/
theorem dec_txt (s S : ByteArray) (a c : Nat) (N : Int) (w : World) (h1 : 21 ≤ c) (h2 : c ≤ 254) (hfit : a + c - 21 ≤ s.size) (hs : s.size ≤ 4194304)
    (HT : Hid (∀ w, Calls Try.prog 37 #[.string (s.extract a (a + c - 21))] w fun e w' => e = .returned (.agg #[.string S, .int .i64 N]) ∧ Below w.heap.size w w')) :
    Calls Try.prog 29 #[.string s, .int .u8 c, .int .i64 a] w fun e w' => e = .returned (.agg #[.string S, .int .i64 N]) ∧ Below w.heap.size w w' := by
  have e0 : ((c : Int) == 0) = false := by simp; omega
  have e9 : ((c : Int) == 9) = false := by simp; omega
  have e10 : ((c : Int) == 10) = false := by simp; omega
  have e11 : ((c : Int) == 11) = false := by simp; omega
  have e20 : ((c : Int) == 20) = false := by simp; omega
  have e255 : ((c : Int) == 255) = false := by simp; omega
  have d20 : decide ((c : Int) < 20) = false := by simp; omega
  go_enter Try.func29, Try.ntmps29
  go_wp2_with fail
  refine (HT.out _).mono ?_
  rintro e w1 ⟨rfl, hb⟩
  obtain ⟨q0, q1, f0, f1, hz, hb1⟩ := own_cells hb
  have HB : Hid (Below w.heap.size w w1) := hb1
  clear hb hb1
  go_wp2
  obtain ⟨r0, r1⟩ := own_stored (v0 := .string S) (v1 := .int .i64 N) q0 q1
  exact bodyPost_ret (v := .agg #[.string S, .int .i64 N]) (by simp [results, Try.results29, go_sem, r0, r1]) rfl ⟨rfl, (HB.out.setCell (by simp) _).setCell (by simp) _⟩

set_option maxHeartbeats 1000000 in
/-- decode at 20, a uvarint there. -/
theorem dec_big (s : ByteArray) (a l V : Nat) (f : Nat → Nat) (w : World) (hs : s.size ≤ 4194304) (ha : a ≤ s.size) (HV : Hid (V = vl f (l + 1))) (hfit : a + (l + 1) + V ≤ s.size)
    (HF : Hid (∀ i (h : i < (s.extract a s.size).size), (s.extract a s.size)[i].toNat = f i)) (HB : Hid (∀ i, f i < 256)) (HG : Hid (GoodUv f (s.extract a s.size).size l)) :
    Calls Try.prog 29 #[.string s, .int .u8 20, .int .i64 a] w fun e w' => e = .returned (.agg #[.string (s.extract (a + (l + 1)) (a + (l + 1) + V)), .int .i64 3]) ∧ Below w.heap.size w w' := by
  have hl : l < 10 := HG.out.1
  have hsz : Hid ((s.extract a s.size).size ≤ 4194304) := by unfold Hid; simp; omega
  go_enter Try.func29, Try.ntmps29
  go_wp2_with fail
  refine (ruv_good _ l f _ hsz.out HF HB HG).mono ?_
  rintro e w1 ⟨rfl, hw⟩
  subst w1
  rw [← HV.out]
  clear HF HB HG hsz
  go_wp2
  exact bodyPost_ret (v := .agg #[.string (s.extract (a + (l + 1)) (a + (l + 1) + V)), .int .i64 3]) (by simp [results, Try.results29, go_sem]) rfl ⟨rfl, (Below.refl _ _).alloc (Nat.le_refl _) _⟩

set_option maxHeartbeats 1000000 in
/-- decode at 20, no uvarint there. -/
theorem dec_big_none (s : ByteArray) (a : Nat) (f : Nat → Nat) (w : World) (hs : s.size ≤ 4194304) (ha : a ≤ s.size)
    (HF : Hid (∀ i (h : i < (s.extract a s.size).size), (s.extract a s.size)[i].toNat = f i)) (HB : Hid (∀ i, f i < 256)) (HG : Hid (∀ l, ¬ GoodUv f (s.extract a s.size).size l)) :
    Calls Try.prog 29 #[.string s, .int .u8 20, .int .i64 a] w fun e w' => e = .returned (.agg #[.string ByteArray.empty, .int .i64 3]) ∧ Below w.heap.size w w' := by
  have hsz : Hid ((s.extract a s.size).size ≤ 4194304) := by unfold Hid; simp; omega
  go_enter Try.func29, Try.ntmps29
  go_wp2_with fail
  refine (ruv_none _ f _ hsz.out HF HB HG).mono ?_
  rintro e w1 ⟨rfl, hw⟩
  subst w1
  clear HF HB HG hsz
  go_wp2
  exact bodyPost_ret (v := .agg #[.string ByteArray.empty, .int .i64 3]) (by simp [results, Try.results29, go_sem]) rfl ⟨rfl, (Below.refl _ _).alloc (Nat.le_refl _) _⟩

set_option maxHeartbeats 1000000 in
/-- decode at 255, a uvarint there, out of stringValue. -/
theorem dec_long (s S : ByteArray) (a l V : Nat) (N : Int) (f : Nat → Nat) (w : World) (hs : s.size ≤ 4194304) (ha : a ≤ s.size) (HV : Hid (V = vl f (l + 1))) (hfit : a + (l + 1) + V ≤ s.size)
    (HF : Hid (∀ i (h : i < (s.extract a s.size).size), (s.extract a s.size)[i].toNat = f i)) (HB : Hid (∀ i, f i < 256)) (HG : Hid (GoodUv f (s.extract a s.size).size l))
    (HT : Hid (∀ w, Calls Try.prog 37 #[.string (s.extract (a + (l + 1)) (a + (l + 1) + V))] w fun e w' => e = .returned (.agg #[.string S, .int .i64 N]) ∧ Below w.heap.size w w')) :
    Calls Try.prog 29 #[.string s, .int .u8 255, .int .i64 a] w fun e w' => e = .returned (.agg #[.string S, .int .i64 N]) ∧ Below w.heap.size w w' := by
  have hl : l < 10 := HG.out.1
  have hsz : Hid ((s.extract a s.size).size ≤ 4194304) := by unfold Hid; simp; omega
  go_enter Try.func29, Try.ntmps29
  go_wp2_with fail
  refine (ruv_good _ l f _ hsz.out HF HB HG).mono ?_
  rintro e w1 ⟨rfl, hw⟩
  subst w1
  rw [← HV.out]
  clear HF HB HG hsz
  go_wp2_with fail
  refine (HT.out _).mono ?_
  rintro e w1 ⟨rfl, hb⟩
  obtain ⟨q0, q1, f0, f1, hz, hb1⟩ := own_cells hb
  have HB : Hid (Below w.heap.size w w1) := hb1
  clear hb hb1
  go_wp2
  obtain ⟨r0, r1⟩ := own_stored (v0 := .string S) (v1 := .int .i64 N) q0 q1
  exact bodyPost_ret (v := .agg #[.string S, .int .i64 N]) (by simp [results, Try.results29, go_sem, r0, r1]) rfl ⟨rfl, (HB.out.setCell (by simp) _).setCell (by simp) _⟩

set_option maxHeartbeats 1000000 in
/-- decode at 255, no uvarint there, out of stringValue. -/
theorem dec_long_none (s : ByteArray) (a : Nat) (f : Nat → Nat) (w : World) (hs : s.size ≤ 4194304) (ha : a ≤ s.size)
    (HF : Hid (∀ i (h : i < (s.extract a s.size).size), (s.extract a s.size)[i].toNat = f i)) (HB : Hid (∀ i, f i < 256)) (HG : Hid (∀ l, ¬ GoodUv f (s.extract a s.size).size l)) :
    Calls Try.prog 29 #[.string s, .int .u8 255, .int .i64 a] w fun e w' => e = .returned (.agg #[.string ByteArray.empty, .int .i64 1]) ∧ Below w.heap.size w w' := by
  have hsz : Hid ((s.extract a s.size).size ≤ 4194304) := by unfold Hid; simp; omega
  go_enter Try.func29, Try.ntmps29
  go_wp2_with fail
  refine (ruv_none _ f _ hsz.out HF HB HG).mono ?_
  rintro e w1 ⟨rfl, hw⟩
  subst w1
  clear HF HB HG hsz
  go_wp2_with fail
  refine (strv_plain ByteArray.empty (fun h => absurd h (by simp)) _).mono ?_
  rintro e w1 ⟨rfl, hb⟩
  obtain ⟨q0, q1, f0, f1, hz, hb1⟩ := own_cells hb
  have HB : Hid (Below w.heap.size w w1) := hb1
  clear hb hb1
  go_wp2
  obtain ⟨r0, r1⟩ := own_stored (v0 := .string ByteArray.empty) (v1 := .int .i64 1) q0 q1
  exact bodyPost_ret (v := .agg #[.string ByteArray.empty, .int .i64 1]) (by simp [results, Try.results29, go_sem, r0, r1]) rfl ⟨rfl, (HB.out.setCell (by simp) _).setCell (by simp) _⟩
end Go.Proofs.Qxb6614055a.Dec
