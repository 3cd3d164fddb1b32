/-
  zzMakeEvents by a contract.
-/
import Derived.Test.Qxb6613968aList
namespace Go.Proofs.Qxb6613968a.Ch
open Go.ChangeShapes Go.WideShapes Go.ChangeAt Go.RowKit
set_option linter.unusedVariables false

theorem Try.info60 : (Try.prog.info? 60).map (fun i => (i.zero, i.size, i.bytes)) = some (some (.agg #[.string { data := #[] }, .int .u64 0, .slice none 0 0]), 3, 48) := by kernel_rfl

/-- n events lie in a block of their own. -/
def EvAt (w : World) (S : Nat → ByteArray) (I : Nat → Int) (A : Nat → Option Addr) (L C : Nat → Nat) (n : Nat) (ao : Option Addr) : Prop :=
  0 < n → ∃ g, ao = some ⟨g, 0, none⟩ ∧ ∀ j, j < n → w.rangeAt g (j * 3) [.string (S j), .int .u64 (I j), .slice (A j) (L j) (C j)]

theorem range_later {w w' : World} {b o : Nat} {cs : List Value} (h : w.rangeAt b o cs) (hb : Below w.heap.size w w') : w'.rangeAt b o cs := fun j v hv => cell_later hb (h j v hv)

theorem EvAt.later {w w' : World} {S : Nat → ByteArray} {I : Nat → Int} {A : Nat → Option Addr} {L C : Nat → Nat} {n : Nat} {ao : Option Addr} (h : EvAt w S I A L C n ao) (hb : Below w.heap.size w w') : EvAt w' S I A L C n ao := fun hn => by
  obtain ⟨g, e, hc⟩ := h hn
  exact ⟨g, e, fun j hj => range_later (hc j hj) hb⟩

def EvOut (S : Nat → ByteArray) (I : Nat → Int) (A : Nat → Option Addr) (L C : Nat → Nat) (n : Nat) (an : Option Addr) (w : World) (e : Ending) (w' : World) : Prop :=
  ∃ ao, (ao = none ↔ an = none) ∧ e = .returned (.slice ao n n) ∧ Below w.heap.size w w' ∧ EvAt w' S I A L C n ao

theorem ev_step {w wr : World} {B k n : Nat} {S : Nat → ByteArray} {I : Nat → Int} {A : Nat → Option Addr} {L C : Nat → Nat} (hB : B = w.heap.size) (hlt : k < n) (hbl : Below B w wr) (hth : wr.there B 0 (n * 3))
    (hrg : ∀ j, j < k → wr.rangeAt B (j * 3) [.string (S j), .int .u64 (I j), .slice (A j) (L j) (C j)]) :
    Below B w (((wr.setCell ⟨B, k * 3, none⟩ (.string (S k))).setCell ⟨B, k * 3 + 1, none⟩ (.int .u64 (I k))).setCell ⟨B, k * 3 + 2, none⟩ (.slice (A k) (L k) (C k))).drew ∧
    (((wr.setCell ⟨B, k * 3, none⟩ (.string (S k))).setCell ⟨B, k * 3 + 1, none⟩ (.int .u64 (I k))).setCell ⟨B, k * 3 + 2, none⟩ (.slice (A k) (L k) (C k))).drew.there B 0 (n * 3) ∧
    ∀ j, j < k + 1 → (((wr.setCell ⟨B, k * 3, none⟩ (.string (S k))).setCell ⟨B, k * 3 + 1, none⟩ (.int .u64 (I k))).setCell ⟨B, k * 3 + 2, none⟩ (.slice (A k) (L k) (C k))).drew.rangeAt B (j * 3) [.string (S j), .int .u64 (I j), .slice (A j) (L j) (C j)] := by
  have e : ((wr.setCell ⟨B, k * 3, none⟩ (.string (S k))).setCell ⟨B, k * 3 + 1, none⟩ (.int .u64 (I k))).setCell ⟨B, k * 3 + 2, none⟩ (.slice (A k) (L k) (C k)) = wr.setCells B (k * 3) [.string (S k), .int .u64 (I k), .slice (A k) (L k) (C k)] := rfl
  refine ⟨?_, ?_, fun j hj => ?_⟩
  · exact (((hbl.setCell (by simp) _).setCell (by simp) _).setCell (by simp) _).drew
  · rw [e, World.there_drew]
    exact World.there_setCells hth _ _ _
  · rw [e, World.rangeAt_drew]
    by_cases h : j = k
    · subst h
      exact World.rangeAt_setCells_same wr B (j * 3) _ (fun i hi => by have := hth (j * 3 + i) (by simp at hi; omega); simpa using this)
    · exact World.rangeAt_setCells_apart (hrg j (by omega)) _ _ _ (by simp; omega)

theorem there_made3 {w1 : World} {base e n cap : Nat} {g : Nat} {xs : List Value} (hown : w1.ownsRow base e 3 (.slice (some ⟨g, 0, none⟩) n cap) n xs) : w1.there g 0 (n * 3) := fun j hj => by
  rw [Nat.zero_add]
  refine ⟨?_, hown.frozenAt j⟩
  rw [hown.cellAt j (by omega)]
  have := hown.1
  simp [List.getElem?_eq_getElem (show j < _ from by rw [this]; omega)]

set_option maxRecDepth 100000 in
set_option maxHeartbeats 2000000 in
theorem mkEvents_some (a : Addr) (ai ad : Option Addr) (n cn ci cd : Nat) (S : Nat → ByteArray) (I : Nat → Int) (A : Nat → Option Addr) (L C : Nat → Nat) (w : World) (hn : n ≤ 1048576)
    (rn : Hid (RowAt w (fun j => .string (S j)) n (some a))) (ri : Hid (RowAt w (fun j => .int .u64 (I j)) n ai)) (rd : Hid (RowAt w (fun j => .slice (A j) (L j) (C j)) n ad)) :
    Calls Try.prog 28 #[.slice (some a) n cn, .slice ai n ci, .slice ad n cd] w (EvOut S I A L C n (some a) w) := by
  obtain ⟨i0, hi, hz0, hz1, hz2⟩ := info_parts Try.info60
  have HI : Hid (Try.prog.info? 60 = some i0 ∧ i0.zero = some (.agg #[.string { data := #[] }, .int .u64 0, .slice none 0 0]) ∧ i0.size = 3 ∧ i0.bytes = 48) := ⟨hi, hz0, hz1, hz2⟩
  clear hi hz0 hz1 hz2
  have hnil := fun (w : World) (x : Option Addr) (l k l' k' : Nat) => Lib.run_eql_slice_nil (P := Try.prog) w 22 9 x l k l' k' Try.underlying22
  go_enter Try.func28, Try.ntmps28
  go_wp2_with (at_make; refine wpList_make_full _ rfl (.tmp 12) (.tmp 12) 51 rfl w.heap.size 60 i0 _ 3 Try.underlying51 HI.out.1 HI.out.2.1 HI.out.2.2.1 .i64 .i64 _ _ n rfl rfl rfl rfl (by rw [HI.out.2.2.2]; omega) (by unfold maxLen; omega) (Nat.le_refl _) ?_; intro w1 hown hgrow)
  go_loopw [16] (fun i wr => ∃ k : Nat, k ≤ n ∧ i = .int .i64 k ∧ Below w.heap.size w wr ∧ wr.there w.heap.size 0 (n * 3) ∧ ∀ j, j < k → wr.rangeAt w.heap.size (j * 3) [.string (S j), .int .u64 (I j), .slice (A j) (L j) (C j)]) (fun i _ => n - (intOf i).toNat)
  case atStart =>
    exact ⟨0, Nat.zero_le _, rfl, (Below.refl _ _).grown hgrow (Nat.le_refl _) (by simp), there_made3 hown, fun j hj => absurd hj (Nat.not_lt_zero _)⟩
  case round =>
    obtain ⟨k, hk, rfl, hbl, hth, hrow⟩ := hrel
    have H : Hid (Below w.heap.size w wr ∧ wr.there w.heap.size 0 (n * 3) ∧ ∀ j, j < k → wr.rangeAt w.heap.size (j * 3) [.string (S j), .int .u64 (I j), .slice (A j) (L j) (C j)]) := ⟨hbl, hth, hrow⟩
    clear hown hgrow
    by_cases hlt : k < n
    · obtain ⟨nb, no, en, hcn⟩ := rn.out (by omega)
      obtain ⟨ib, io, ei, hci⟩ := ri.out (by omega)
      obtain ⟨db, dO, ed, hcd⟩ := rd.out (by omega)
      obtain rfl := Option.some.inj en
      subst ei ed
      have pn : nb < w.heap.size := World.block_lt_of_cell? w _ (hcn k hlt)
      have pi : ib < w.heap.size := World.block_lt_of_cell? w _ (hci k hlt)
      have pd : db < w.heap.size := World.block_lt_of_cell? w _ (hcd k hlt)
      have e1 : wr.cell? ⟨nb, no + k, none⟩ = some (.string (S k)) := (hbl.cell (p := ⟨nb, no + k, none⟩) pn).trans (hcn k hlt)
      have e2 : wr.cell? ⟨ib, io + k, none⟩ = some (.int .u64 (I k)) := (hbl.cell (p := ⟨ib, io + k, none⟩) pi).trans (hci k hlt)
      have e3 : wr.cell? ⟨db, dO + k, none⟩ = some (.slice (A k) (L k) (C k)) := (hbl.cell (p := ⟨db, dO + k, none⟩) pd).trans (hcd k hlt)
      have b0 : (0 : Int) ≤ (k : Int) := by omega
      have b1 : (k : Int) < (n : Int) := by omega
      obtain ⟨⟨s0, f0⟩, ⟨s1, f1⟩, s2, f2⟩ := (⟨hth (k * 3) (by omega), hth (k * 3 + 1) (by omega), hth (k * 3 + 2) (by omega)⟩ : _ ∧ _ ∧ _)
      simp only [Nat.zero_add] at s0 s1 s2 f0 f1 f2
      obtain ⟨u0, s0⟩ := Option.isSome_iff_exists.1 s0
      obtain ⟨u1, s1⟩ := Option.isSome_iff_exists.1 s1
      obtain ⟨u2, s2⟩ := Option.isSome_iff_exists.1 s2
      have n1 : w.heap.size ≠ nb := by omega
      have n2 : w.heap.size ≠ ib := by omega
      have n3 : w.heap.size ≠ db := by omega
      clear hbl hth hrow hcn hci hcd en
      go_wp2
      go_region_held3 (fun w' => w'.cell? ⟨nb, no + k, none⟩ = some (.string (S k)) ∧ w'.cell? ⟨ib, io + k, none⟩ = some (.int .u64 (I k)) ∧ w'.cell? ⟨db, dO + k, none⟩ = some (.slice (A k) (L k) (C k))) (go_keep) (fail)
      go_wp2
      go_roundw
      case rel =>
        obtain ⟨r1, r2, r3⟩ := ev_step (S := S) (I := I) (A := A) (L := L) (C := C) rfl hlt H.out.1 H.out.2.1 H.out.2.2
        exact ⟨k + 1, by omega, by go_num, r1, r2, r3⟩
      case measure => simp [intOf]; omega
    · obtain rfl : k = n := by omega
      clear hbl hth hrow
      go_wp2
      go_ret
      exact ⟨some ⟨w.heap.size, 0, none⟩, by simp, rfl, H.out.1, fun _ => ⟨w.heap.size, rfl, H.out.2.2⟩⟩

set_option maxRecDepth 100000 in
theorem mkEvents_nil (ai ad : Option Addr) (ci cd : Nat) (S : Nat → ByteArray) (I : Nat → Int) (A : Nat → Option Addr) (L C : Nat → Nat) (w : World) :
    Calls Try.prog 28 #[.slice none 0 0, .slice ai 0 ci, .slice ad 0 cd] w (EvOut S I A L C 0 none w) := by
  have hnil := fun (w : World) (x : Option Addr) (l k l' k' : Nat) => Lib.run_eql_slice_nil (P := Try.prog) w 22 9 x l k l' k' Try.underlying22
  go_enter Try.func28, Try.ntmps28
  go_wp2
  go_ret
  exact ⟨none, by simp, rfl, Below.refl _ _, fun h => absurd h (Nat.lt_irrefl _)⟩

theorem mkEvents_any (an ai ad : Option Addr) (n cn ci cd : Nat) (S : Nat → ByteArray) (I : Nat → Int) (A : Nat → Option Addr) (L C : Nat → Nat) (w : World) (h0 : an = none → n = 0 ∧ cn = 0) (hn : n ≤ 1048576)
    (rn : RowAt w (fun j => .string (S j)) n an) (ri : RowAt w (fun j => .int .u64 (I j)) n ai) (rd : RowAt w (fun j => .slice (A j) (L j) (C j)) n ad) :
    Calls Try.prog 28 #[.slice an n cn, .slice ai n ci, .slice ad n cd] w (EvOut S I A L C n an w) := by
  cases an with
  | none =>
    obtain ⟨rfl, rfl⟩ := h0 rfl
    exact mkEvents_nil ai ad ci cd S I A L C w
  | some a => exact mkEvents_some a ai ad n cn ci cd S I A L C w hn rn ri rd
end Go.Proofs.Qxb6613968a.Ch
