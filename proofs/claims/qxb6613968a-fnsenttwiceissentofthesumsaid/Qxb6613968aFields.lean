/-
  zzEventFields by a contract.
-/
import Derived.Test.Qxb6613968aEq
namespace Go.Proofs.Qxb6613968a.Ch
open Go.ChangeShapes Go.WideShapes Go.ChangeAt Go.RowKit
set_option linter.unusedVariables false

def FieldsOut (S : Nat → ByteArray) (I : Nat → Int) (A : Nat → Option Addr) (L C : Nat → Nat) (n : Nat) (w : World) (e : Ending) (w' : World) : Prop :=
  ∃ g1 g2 g3, e = .returned (.tuple #[.slice g1 n n, .slice g2 n n, .slice g3 n n]) ∧ Below w.heap.size w w' ∧ RowAt w' (fun j => .string (S j)) n g1 ∧ RowAt w' (fun j => .int .u64 (I j)) n g2 ∧ RowAt w' (fun j => .slice (A j) (L j) (C j)) n g3

/-- What the loop holds when k members are made. -/
structure FAt (S : Nat → ByteArray) (I : Nat → Int) (A : Nat → Option Addr) (L C : Nat → Nat) (n : Nat) (w : World) (g1 g2 g3 k : Nat) (wr : World) : Prop where
  bel : Below w.heap.size w wr
  t1 : wr.there g1 0 n
  t2 : wr.there g2 0 n
  t3 : wr.there g3 0 n
  c1 : ∀ j, j < k → wr.cell? ⟨g1, j, none⟩ = some (.string (S j))
  c2 : ∀ j, j < k → wr.cell? ⟨g2, j, none⟩ = some (.int .u64 (I j))
  c3 : ∀ j, j < k → wr.cell? ⟨g3, j, none⟩ = some (.slice (A j) (L j) (C j))

theorem there_set {w : World} {b o n : Nat} (h : w.there b o n) (b' o' : Nat) (v : Value) : (w.setCell ⟨b', o', none⟩ v).there b o n := World.there_setCells h b' o' [v]

theorem cell_set {w : World} {b g j k n : Nat} {u v : Value} (h : w.cell? ⟨b, j, none⟩ = some u) (hne : b ≠ g) : (w.setCell ⟨g, k, none⟩ v).cell? ⟨b, j, none⟩ = some u := by
  rw [World.cell?_setCell_other _ _ _ _ (by intro e; cases e; exact hne rfl)]
  exact h

theorem cell_put {w : World} {g k n : Nat} {v : Value} (h : w.there g 0 n) (hk : k < n) : (w.setCell ⟨g, k, none⟩ v).cell? ⟨g, k, none⟩ = some v := by
  have hs := (h k hk).1
  rw [Nat.zero_add] at hs
  obtain ⟨u, hu⟩ := Option.isSome_iff_exists.1 hs
  exact World.cell?_setCell_same _ _ _ hu

theorem cell_upto {w : World} {g k n : Nat} {H : Nat → Value} (ht : w.there g 0 n) (hk : k < n) (h : ∀ j, j < k → w.cell? ⟨g, j, none⟩ = some (H j)) : ∀ j, j < k + 1 → (w.setCell ⟨g, k, none⟩ (H k)).cell? ⟨g, j, none⟩ = some (H j) := fun j hj => by
  by_cases e : j = k
  · subst e; exact cell_put ht hk
  · rw [World.cell?_setCell_other _ _ _ _ (by intro e'; cases e'; exact e rfl)]
    exact h j (by omega)

theorem f_step {S : Nat → ByteArray} {I : Nat → Int} {A : Nat → Option Addr} {L C : Nat → Nat} {n : Nat} {w : World} {g1 g2 g3 k : Nat} {wr : World} (h : FAt S I A L C n w g1 g2 g3 k wr) (hk : k < n) (h12 : g1 ≠ g2) (h13 : g1 ≠ g3) (h23 : g2 ≠ g3) (b1 : w.heap.size ≤ g1) (b2 : w.heap.size ≤ g2) (b3 : w.heap.size ≤ g3) :
    FAt S I A L C n w g1 g2 g3 (k + 1) (((wr.setCell ⟨g1, k, none⟩ (.string (S k))).setCell ⟨g2, k, none⟩ (.int .u64 (I k))).setCell ⟨g3, k, none⟩ (.slice (A k) (L k) (C k))) where
  bel := ((h.bel.setCell b1 _).setCell b2 _).setCell b3 _
  t1 := there_set (there_set (there_set h.t1 _ _ _) _ _ _) _ _ _
  t2 := there_set (there_set (there_set h.t2 _ _ _) _ _ _) _ _ _
  t3 := there_set (there_set (there_set h.t3 _ _ _) _ _ _) _ _ _
  c1 := fun j hj => cell_set (n := n) (cell_set (n := n) (cell_upto (H := fun j => .string (S j)) h.t1 hk h.c1 j hj) h12) h13
  c2 := fun j hj => cell_set (n := n) (cell_upto (H := fun j => .int .u64 (I j)) (there_set h.t2 _ _ _) hk (fun j hj => cell_set (n := n) (h.c2 j hj) (Ne.symm h12)) j hj) h23
  c3 := fun j hj => cell_upto (H := fun j => .slice (A j) (L j) (C j)) (there_set (there_set h.t3 _ _ _) _ _ _) hk (fun j hj => cell_set (n := n) (cell_set (n := n) (h.c3 j hj) (Ne.symm h13)) (Ne.symm h23)) j hj

theorem there_later {w w' : World} {b o n : Nat} (h : w.there b o n) (hb : Below w.heap.size w w') (hlt : b < w.heap.size) : w'.there b o n := fun j hj => by
  have := h j hj
  exact ⟨by rw [hb.cell (p := ⟨b, o + j, none⟩) hlt]; exact this.1, by rw [hb.frozen (p := ⟨b, o + j, none⟩) hlt]; exact this.2⟩

set_option maxRecDepth 100000 in
set_option maxHeartbeats 4000000 in
theorem fields_any (ao : Option Addr) (n c : Nat) (S : Nat → ByteArray) (I : Nat → Int) (A : Nat → Option Addr) (L C : Nat → Nat) (w : World) (hn : n ≤ 1048576) (he : Hid (EvAt w S I A L C n ao)) :
    Calls Try.prog 31 #[.slice ao n c] w (FieldsOut S I A L C n w) := by
  obtain ⟨i0, hi, hz0, hz1, hz2⟩ := info_parts Try.info9
  have HI : Hid (Try.prog.info? 9 = some i0 ∧ i0.zero = some (.string { data := #[] }) ∧ i0.size = 1 ∧ i0.bytes = 16) := ⟨hi, hz0, hz1, hz2⟩
  clear hi hz0 hz1 hz2
  obtain ⟨i1, hi, hz0, hz1, hz2⟩ := info_parts Try.info35
  have HJ : Hid (Try.prog.info? 35 = some i1 ∧ i1.zero = some (.int .u64 0) ∧ i1.size = 1 ∧ i1.bytes = 8) := ⟨hi, hz0, hz1, hz2⟩
  clear hi hz0 hz1 hz2
  obtain ⟨i2, hi, hz0, hz1, hz2⟩ := info_parts Try.info36
  have HK : Hid (Try.prog.info? 36 = some i2 ∧ i2.zero = some (.slice none 0 0) ∧ i2.size = 1 ∧ i2.bytes = 24) := ⟨hi, hz0, hz1, hz2⟩
  clear hi hz0 hz1 hz2
  go_enter Try.func31, Try.ntmps31
  go_wp2_with (first
    | (at_make; refine wpList_make_full _ rfl (.tmp 10) (.tmp 10) 22 rfl w.heap.size 9 i0 _ 1 Try.underlying22 HI.out.1 HI.out.2.1 HI.out.2.2.1 .i64 .i64 _ _ n rfl rfl rfl rfl (by rw [HI.out.2.2.2]; omega) (by unfold maxLen; omega) (Nat.le_refl _) ?_; intro w1 hown hgrow; have O1 : Hid (w1.there w.heap.size 0 n ∧ w.heap.size < w1.heap.size ∧ Below w.heap.size w w1) := ⟨there_made hown, own_lt hown, (Below.refl _ _).grown hgrow (Nat.le_refl _) (by simp)⟩; clear hown hgrow)
    | (at_make; refine wpList_make_full w1 rfl (.tmp 13) (.tmp 13) 23 rfl w1.heap.size 35 i1 _ 1 Try.underlying23 HJ.out.1 HJ.out.2.1 HJ.out.2.2.1 .i64 .i64 _ _ n rfl rfl rfl rfl (by rw [HJ.out.2.2.2]; omega) (by unfold maxLen; omega) (Nat.le_refl _) ?_; intro w2 hown hgrow; have O2 : Hid (w2.there w1.heap.size 0 n ∧ w1.heap.size < w2.heap.size ∧ Below w1.heap.size w1 w2) := ⟨there_made hown, own_lt hown, (Below.refl _ _).grown hgrow (Nat.le_refl _) (by simp)⟩; clear hown hgrow)
    | (at_make; refine wpList_make_full w2 rfl (.tmp 16) (.tmp 16) 24 rfl w2.heap.size 36 i2 _ 1 Try.underlying24 HK.out.1 HK.out.2.1 HK.out.2.2.1 .i64 .i64 _ _ n rfl rfl rfl rfl (by rw [HK.out.2.2.2]; omega) (by unfold maxLen; omega) (Nat.le_refl _) ?_; intro w3 hown hgrow; have O3 : Hid (w3.there w2.heap.size 0 n ∧ w2.heap.size < w3.heap.size ∧ Below w2.heap.size w2 w3) := ⟨there_made hown, own_lt hown, (Below.refl _ _).grown hgrow (Nat.le_refl _) (by simp)⟩; clear hown hgrow))
  have z1 := O1.out.2.1
  have z2 := O2.out.2.1
  have n12 : w.heap.size ≠ w1.heap.size := by omega
  have n13 : w.heap.size ≠ w2.heap.size := by omega
  have n23 : w1.heap.size ≠ w2.heap.size := by omega
  go_loopw [20] (fun i wr => ∃ k : Nat, k ≤ n ∧ i = .int .i64 k ∧ FAt S I A L C n w w.heap.size w1.heap.size w2.heap.size k wr) (fun i _ => n - (intOf i).toNat)
  case atStart =>
    refine ⟨0, Nat.zero_le _, rfl, ⟨?_, ?_, ?_, O3.out.1, fun j hj => absurd hj (Nat.not_lt_zero _), fun j hj => absurd hj (Nat.not_lt_zero _), fun j hj => absurd hj (Nat.not_lt_zero _)⟩⟩
    · exact (O1.out.2.2.trans (O2.out.2.2.mono (by omega))).trans (O3.out.2.2.mono (by omega))
    · exact there_later (there_later O1.out.1 O2.out.2.2 (by omega)) O3.out.2.2 (by omega)
    · exact there_later O2.out.1 O3.out.2.2 (by omega)
  case round =>
    obtain ⟨k, hk, rfl, hF⟩ := hrel
    have HF : Hid (FAt S I A L C n w w.heap.size w1.heap.size w2.heap.size k wr) := hF
    clear O1 O2 O3
    by_cases hlt : k < n
    · obtain ⟨ge, rfl, hc⟩ := he.out (by omega)
      have c0 := hc k hlt 0 _ rfl
      have c1 := hc k hlt 1 _ rfl
      have c2 := hc k hlt 2 _ rfl
      have gl : ge < w.heap.size := World.block_lt_of_cell? w _ c0
      have e0 : wr.cell? ⟨ge, k * 3, none⟩ = some (.string (S k)) := (hF.bel.cell (p := ⟨ge, k * 3 + 0, none⟩) gl).trans c0
      have e1 : wr.cell? ⟨ge, k * 3 + 1, none⟩ = some (.int .u64 (I k)) := (hF.bel.cell (p := ⟨ge, k * 3 + 1, none⟩) gl).trans c1
      have e2 : wr.cell? ⟨ge, k * 3 + 2, none⟩ = some (.slice (A k) (L k) (C k)) := (hF.bel.cell (p := ⟨ge, k * 3 + 2, none⟩) gl).trans c2
      obtain ⟨⟨s0, f0⟩, ⟨s1, f1⟩, s2, f2⟩ := (⟨hF.t1 k hlt, hF.t2 k hlt, hF.t3 k hlt⟩ : _ ∧ _ ∧ _)
      simp only [Nat.zero_add] at s0 s1 s2 f0 f1 f2
      obtain ⟨u0, s0⟩ := Option.isSome_iff_exists.1 s0
      obtain ⟨u1, s1⟩ := Option.isSome_iff_exists.1 s1
      obtain ⟨u2, s2⟩ := Option.isSome_iff_exists.1 s2
      have m1 : w.heap.size ≠ ge := by omega
      have m2 : w1.heap.size ≠ ge := by omega
      have m3 : w2.heap.size ≠ ge := by omega
      have b0 : (0 : Int) ≤ (k : Int) := by omega
      have b1 : (k : Int) < (n : Int) := by omega
      clear hF hc c0 c1 c2
      go_wp2
      go_roundw
      case rel => exact ⟨k + 1, by omega, by go_num, f_step HF.out hlt n12 n13 n23 (Nat.le_refl _) (by omega) (by omega)⟩
      case measure => simp [intOf]; omega
    · obtain rfl : k = n := by omega
      clear hF
      go_wp2
      go_ret3
      have R : ∀ {g : Nat} {H : Nat → Value}, (∀ j, j < k → wr.cell? ⟨g, j, none⟩ = some (H j)) → RowAt wr H k (some ⟨g, 0, none⟩) := fun h _ => ⟨_, 0, rfl, fun j hj => by rw [Nat.zero_add]; exact h j hj⟩
      exact ⟨_, _, _, rfl, HF.out.bel, R HF.out.c1, R HF.out.c2, R HF.out.c3⟩
end Go.Proofs.Qxb6613968a.Ch
