/-
  zzCloneBytesList by a contract.
-/
import Derived.Test.Qxb6613968aClone
namespace Go.Proofs.Qxb6613968a.Ch
open Go.ChangeShapes Go.WideShapes Go.ChangeAt Go.RowKit
set_option linter.unusedVariables false

theorem Try.info36 : (Try.prog.info? 36).map (fun i => (i.zero, i.size, i.bytes)) = some (some (.slice none 0 0), 1, 24) := by kernel_rfl

/-- What the clone of a list of byte slices hands back. -/
def ListOut (L : Nat → Nat) (Z : Nat → Nat → Int) (n : Nat) (ao : Option Addr) (w : World) (e : Ending) (w' : World) : Prop :=
  ∃ (ao' : Option Addr) (A' : Nat → Option Addr), (ao' = none ↔ ao = none) ∧ e = .returned (.slice ao' n n) ∧ Below w.heap.size w w' ∧ RowAt w' (fun j => .slice (A' j) (L j) (L j)) n ao' ∧ ∀ j, j < n → RowAt w' (fun i => .int .u8 (Z j i)) (L j) (A' j)

/-- What the loop of the clone holds when k members are made. -/
def ListAt (w : World) (L : Nat → Nat) (Z : Nat → Nat → Int) (n k : Nat) (A' : Nat → Option Addr) (wr : World) : Prop :=
  Below w.heap.size w wr ∧ (∀ j, j < n → wr.frozen? ⟨w.heap.size, j, none⟩ = false) ∧ (∀ j, k ≤ j → j < n → wr.cell? ⟨w.heap.size, j, none⟩ = some (.slice none 0 0)) ∧
    (∀ j, j < k → wr.cell? ⟨w.heap.size, j, none⟩ = some (.slice (A' j) (L j) (L j))) ∧ ∀ j, j < k → RowAt wr (fun i => .int .u8 (Z j i)) (L j) (A' j)

/-- A cell is as it was behind a store into a cell that held something else. -/
theorem cell_kept_ne {w : World} {a b : Addr} {u u' v : Value} (h : w.cell? a = some u) (hb : w.cell? b = some u') (hne : u ≠ u') : (w.setCell b v).cell? a = some u := by
  rw [World.cell?_setCell_other _ _ _ _ (by intro e; subst e; rw [h] at hb; exact hne (Option.some.inj hb))]
  exact h

theorem row_kept {w : World} {H : Nat → Value} {n : Nat} {ao : Option Addr} {b : Addr} {u' v : Value} (h : RowAt w H n ao) (hb : w.cell? b = some u') (hne : ∀ j, j < n → H j ≠ u') : RowAt (w.setCell b v) H n ao := fun hn => by
  obtain ⟨g, off, e, hc⟩ := h hn
  exact ⟨g, off, e, fun j hj => cell_kept_ne (hc j hj) hb (hne j hj)⟩

theorem own_lt {w1 : World} {base e size n m cap g : Nat} {xs : List Value} (hown : w1.ownsRow base e size (.slice (some ⟨g, 0, none⟩) n cap) m xs) : g < w1.heap.size := by
  rcases hown.2 with ⟨h, _⟩ | ⟨g', cap', cur, h, _, hg, _⟩
  · simp at h
  · simp only [Value.slice.injEq, Option.some.injEq, Addr.mk.injEq, and_true] at h
    obtain ⟨rfl, _⟩ := h
    exact (Array.getElem?_eq_some_iff.1 hg).1

theorem list_step {w wr w2 : World} {L : Nat → Nat} {Z : Nat → Nat → Int} {n k : Nat} {A' : Nat → Option Addr} {a' : Option Addr} (hk : k < n) (hlt : w.heap.size < wr.heap.size) (h : ListAt w L Z n k A' wr) (hb : Below wr.heap.size wr w2) (hr : RowAt w2 (fun i => .int .u8 (Z k i)) (L k) a') :
    ListAt w L Z n (k + 1) (fun j => if j = k then a' else A' j) (w2.setCell ⟨w.heap.size, k, none⟩ (.slice a' (L k) (L k))) := by
  obtain ⟨h1, h2, h3, h4, h5⟩ := h
  have hu : w2.cell? ⟨w.heap.size, k, none⟩ = some (.slice none 0 0) := cell_later hb (h3 k (Nat.le_refl _) hk)
  refine ⟨(h1.trans (hb.mono h1.size)).setCell (by simp) _, fun j hj => ?_, fun j hj hn => ?_, fun j hj => ?_, fun j hj => ?_⟩
  · rw [World.frozen?_setCell, hb.frozen (p := ⟨w.heap.size, j, none⟩) hlt]
    exact h2 j hj
  · rw [World.cell?_setCell_other _ _ _ _ (by intro e; cases e; omega)]
    exact cell_later hb (h3 j (by omega) hn)
  · by_cases e : j = k
    · subst e
      simp only [↓reduceIte]
      exact World.cell?_setCell_same _ _ _ hu
    · simp only [e, ↓reduceIte]
      rw [World.cell?_setCell_other _ _ _ _ (by intro e'; cases e'; exact e rfl)]
      exact cell_later hb (h4 j (by omega))
  · by_cases e : j = k
    · subst e
      simp only [↓reduceIte]
      exact row_kept hr hu (fun _ _ => by simp)
    · simp only [e, ↓reduceIte]
      exact row_kept ((h5 j (by omega)).later hb) hu (fun _ _ => by simp)

set_option maxRecDepth 100000 in
set_option maxHeartbeats 1000000 in
theorem cloneList_some (a : Addr) (n c : Nat) (A : Nat → Option Addr) (L C : Nat → Nat) (Z : Nat → Nat → Int) (w : World) (hr : Hid (RowAt w (fun j => .slice (A j) (L j) (C j)) n (some a))) (hn : n ≤ 1048576)
    (hrows : Hid (∀ j, j < n → (A j = none → L j = 0 ∧ C j = 0) ∧ L j ≤ 1048576 ∧ RowAt w (fun i => .int .u8 (Z j i)) (L j) (A j))) :
    Calls Try.prog 13 #[.slice (some a) n c] w (ListOut L Z n (some a) w) := by
  obtain ⟨i0, hi, hz0, hz1, hz2⟩ := info_parts Try.info36
  have HI : Hid (Try.prog.info? 36 = some i0 ∧ i0.zero = some (.slice none 0 0) ∧ i0.size = 1 ∧ i0.bytes = 24) := ⟨hi, hz0, hz1, hz2⟩
  clear hi hz0 hz1 hz2
  have hnil := fun (w : World) (x : Option Addr) (l k l' k' : Nat) => Lib.run_eql_slice_nil (P := Try.prog) w 24 36 x l k l' k' Try.underlying24
  go_enter Try.func13, Try.ntmps13
  go_wp2_with (at_make; refine wpList_make_full _ rfl (.tmp 8) (.tmp 8) 24 rfl w.heap.size 36 i0 _ 1 Try.underlying24 HI.out.1 HI.out.2.1 HI.out.2.2.1 .i64 .i64 _ _ n rfl rfl rfl rfl (by rw [HI.out.2.2.2]; omega) (by unfold maxLen; omega) (Nat.le_refl _) ?_; intro w1 hown hgrow)
  go_loopw [4] (fun i wr => ∃ (k : Nat) (A' : Nat → Option Addr), k ≤ n ∧ i = .int .i64 k ∧ w.heap.size < wr.heap.size ∧ ListAt w L Z n k A' wr) (fun i _ => n - (intOf i).toNat)
  case atStart =>
    refine ⟨0, fun _ => none, Nat.zero_le _, rfl, ?_, (Below.refl _ _).grown hgrow (Nat.le_refl _) (by simp), fun j _ => hown.frozenAt j, fun j _ hj => ?_, fun j hj => absurd hj (Nat.not_lt_zero _), fun j hj => absurd hj (Nat.not_lt_zero _)⟩
    · exact own_lt hown
    · rw [hown.cellAt j (by omega), show (Value.slice none 0 0).cells = #[.slice none 0 0] from rfl, toList_madeCells_one]
      simp [hj]
  case round =>
    obtain ⟨k, A', hk, rfl, hsz, hl⟩ := hrel
    have H : Hid (ListAt w L Z n k A' wr) := hl
    by_cases hlt : k < n
    · obtain ⟨b, off, e, hc⟩ := hr.out (by omega)
      obtain rfl := Option.some.inj e
      have e1 : wr.cell? ⟨b, off + k, none⟩ = some (.slice (A k) (L k) (C k)) := (hl.1.cell (p := ⟨b, off + k, none⟩) (World.block_lt_of_cell? w _ (hc k hlt))).trans (hc k hlt)
      have HR := hrows.out k hlt
      clear hl hc e hown hgrow
      go_wp2_with fail
      refine (cloneByt_any (A k) (L k) (C k) (Z k) wr HR.1 (HR.2.2.later H.out.1) HR.2.1).mono ?_
      rintro e w2 ⟨a', hiff, rfl, hb2, hr2⟩
      have HL : Hid (ListAt w L Z n (k + 1) (fun j => if j = k then a' else A' j) (w2.setCell ⟨w.heap.size, k, none⟩ (.slice a' (L k) (L k)))) := list_step hlt hsz H.out hb2 hr2
      have s0 : w2.cell? ⟨w.heap.size, k, none⟩ = some (.slice none 0 0) := cell_later hb2 (H.out.2.2.1 k (Nat.le_refl _) hlt)
      have f0 : w2.frozen? ⟨w.heap.size, k, none⟩ = false := (hb2.frozen (p := ⟨w.heap.size, k, none⟩) hsz).trans (H.out.2.1 k hlt)
      have hsz2 : w.heap.size < w2.heap.size := World.block_lt_of_cell? w2 _ s0
      clear hb2 hr2 hiff HR e1
      go_wp2
      go_roundw
      case rel => exact ⟨k + 1, _, by omega, by go_num, by simpa using hsz2, HL.out⟩
      case measure => simp [intOf]; omega
    · obtain rfl : k = n := by omega
      clear hl hown hgrow
      go_wp2
      go_ret
      exact ⟨some ⟨w.heap.size, 0, none⟩, A', by simp, rfl, H.out.1, fun _ => ⟨w.heap.size, 0, rfl, fun j hj => by rw [Nat.zero_add]; exact H.out.2.2.2.1 j hj⟩, H.out.2.2.2.2⟩

set_option maxRecDepth 100000 in
theorem cloneList_nil (L : Nat → Nat) (Z : Nat → Nat → Int) (w : World) : Calls Try.prog 13 #[.slice none 0 0] w (ListOut L Z 0 none w) := by
  have hnil := fun (w : World) (x : Option Addr) (l k l' k' : Nat) => Lib.run_eql_slice_nil (P := Try.prog) w 24 36 x l k l' k' Try.underlying24
  go_enter Try.func13, Try.ntmps13
  go_wp2
  go_ret
  exact ⟨none, fun _ => none, by simp, rfl, Below.refl _ _, fun h => absurd h (Nat.lt_irrefl _), fun j hj => absurd hj (Nat.not_lt_zero _)⟩

theorem cloneList_any (ao : Option Addr) (n c : Nat) (A : Nat → Option Addr) (L C : Nat → Nat) (Z : Nat → Nat → Int) (w : World) (h0 : ao = none → n = 0 ∧ c = 0) (hr : RowAt w (fun j => .slice (A j) (L j) (C j)) n ao) (hn : n ≤ 1048576)
    (hrows : ∀ j, j < n → (A j = none → L j = 0 ∧ C j = 0) ∧ L j ≤ 1048576 ∧ RowAt w (fun i => .int .u8 (Z j i)) (L j) (A j)) :
    Calls Try.prog 13 #[.slice ao n c] w (ListOut L Z n ao w) := by
  cases ao with
  | none =>
    obtain ⟨rfl, rfl⟩ := h0 rfl
    exact cloneList_nil L Z w
  | some a => exact cloneList_some a n c A L C Z w hr hn hrows
end Go.Proofs.Qxb6613968a.Ch
