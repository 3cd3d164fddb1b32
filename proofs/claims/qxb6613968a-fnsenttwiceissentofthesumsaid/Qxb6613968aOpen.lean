/-
  What came in, opened: rows of strings, of words, of byte slices.
-/
import Derived.Test.Qxb6613968aRow
import Derived.ChangeOld
import Derived.Deep.Matrix
import Derived.Deep.Strs
namespace Go.Proofs.Qxb6613968a.Ch
open Go.ChangeShapes Go.WideShapes Go.ChangeAt Go.RowKit

theorem Try.cells9 : Try.prog.cellsOf 9 = 1 := by kernel_rfl
theorem Try.cells35 : Try.prog.cellsOf 35 = 1 := by kernel_rfl
theorem Try.cells36 : Try.prog.cellsOf 36 = 1 := by kernel_rfl
theorem Try.cells5 : Try.prog.cellsOf 5 = 1 := by kernel_rfl

/-- Cells behind an address are a row. -/
theorem row_of {w : World} {x : Addr} {n : Nat} {H : Nat → Value} (h : ∀ j, j < n → w.cell? (x.add j) = some (H j)) : RowAt w H n (some x) := fun hn => by
  obtain ⟨b, off, spot⟩ := x
  have hspot : spot = none := by
    have := World.cell?_spot (h 0 hn)
    simpa [Addr.add] using this
  subst hspot
  refine ⟨b, off, rfl, fun j hj => ?_⟩
  have := h j hj
  rwa [add_plain] at this

theorem row_none {w : World} {H : Nat → Value} {a : Option Addr} : RowAt w H 0 a := fun h => absurd h (Nat.lt_irrefl _)

def StrsIn (w : World) (a : Option Addr) (len cap : Nat) (S : Nat → ByteArray) : Prop := (a = none → len = 0 ∧ cap = 0) ∧ len ≤ 9223372036854775807 ∧ RowAt w (fun j => .string (S j)) len a
def WrdsIn (w : World) (a : Option Addr) (len cap : Nat) (I : Nat → Int) : Prop := (a = none → len = 0 ∧ cap = 0) ∧ len ≤ 9223372036854775807 ∧ RowAt w (fun j => .int .u64 (I j)) len a
def ListIn (w : World) (a : Option Addr) (len cap : Nat) (A : Nat → Option Addr) (L C : Nat → Nat) (D : Nat → Nat → Int) : Prop :=
  (a = none → len = 0 ∧ cap = 0) ∧ len ≤ 9223372036854775807 ∧ RowAt w (fun j => .slice (A j) (L j) (C j)) len a ∧
    ∀ j, j < len → (A j = none → L j = 0 ∧ C j = 0) ∧ L j ≤ 9223372036854775807 ∧ RowAt w (fun i => .int .u8 (D j i)) (L j) (A j)

variable {H : Type} {enc : TypeId × Value → H} {W : World} {a0 : Option Addr} {len0 cap0 fuel : Nat} {x : DataW H × List MemPlace}

theorem strs_open (hf : DataW.trod enc Try.prog W 0 (fun _ => true) true fuel 22 [.slice a0 len0 cap0] = some x) : ∃ S, StrsIn W a0 len0 cap0 S := by
  rcases Go.Deep.open_strs Try.underlying22 Try.underlying9 Try.cells9 hf with ⟨hcs, _⟩ | ⟨a, l, c, m, Sx, hcs, _, hl, hm, hmm, _, hx⟩
  · simp at hcs
    obtain ⟨rfl, rfl, rfl⟩ := hcs
    exact ⟨fun _ => ByteArray.empty, fun _ => ⟨rfl, rfl⟩, Nat.zero_le _, row_none⟩
  · simp at hcs
    obtain ⟨rfl, rfl, rfl⟩ := hcs
    simp only [if_true] at hmm
    unfold maxLen at hm
    exact ⟨Sx, fun h => (by cases h), by omega, row_of fun j hj => (hx j (by omega)).1⟩

theorem wrds_open (hf : DataW.trod enc Try.prog W 0 (fun _ => true) true fuel 23 [.slice a0 len0 cap0] = some x) : ∃ I, WrdsIn W a0 len0 cap0 I := by
  rcases open_ints Try.underlying23 Try.underlying35 Try.cells35 hf with ⟨hcs, _⟩ | ⟨x, l, c, zs, hcs, _, hl, hm, hz, _, hcell, hwz⟩
  · simp at hcs
    obtain ⟨rfl, rfl, rfl⟩ := hcs
    exact ⟨fun _ => 0, fun _ => ⟨rfl, rfl⟩, Nat.zero_le _, row_none⟩
  · simp at hcs
    obtain ⟨rfl, rfl, rfl⟩ := hcs
    simp only [if_true] at hz
    unfold maxLen at hm
    exact ⟨fun j => zs.getD j 0, fun h => (by cases h), by omega, row_of fun j hj => hcell j (by omega)⟩

theorem list_open (hf : DataW.trod enc Try.prog W 0 (fun _ => true) true fuel 24 [.slice a0 len0 cap0] = some x) : ∃ A L C D, ListIn W a0 len0 cap0 A L C D := by
  rcases Go.Deep.open_int_rows Try.underlying24 Try.underlying36 Try.underlying5 Try.cells36 Try.cells5 hf with ⟨hcs, _⟩ | ⟨a, l, c, A, L, C, Z, hcs, _, hl, hm, _, hx⟩
  · simp at hcs
    obtain ⟨rfl, rfl, rfl⟩ := hcs
    exact ⟨fun _ => none, fun _ => 0, fun _ => 0, fun _ _ => 0, fun _ => ⟨rfl, rfl⟩, Nat.zero_le _, row_none, fun j hj => absurd hj (Nat.not_lt_zero _)⟩
  · simp at hcs
    obtain ⟨rfl, rfl, rfl⟩ := hcs
    unfold maxLen at hm
    refine ⟨A, L, C, fun r j => (Z r).getD j 0, fun h => (by cases h), by omega, row_of fun j hj => (hx j (by omega)).1, fun j hj => ?_⟩
    obtain ⟨_, h1, h2, h3, _, h4, h5⟩ := hx j (by omega)
    unfold maxLen at h2
    refine ⟨fun h => ⟨by have := h4 h; omega, h4 h⟩, by omega, ?_⟩
    cases ha : A j with
    | none =>
      have : L j = 0 := by have := h4 ha; omega
      rw [this]
      exact row_none
    | some y => exact row_of fun i hi => (h5 y ha).2 i (by omega)
end Go.Proofs.Qxb6613968a.Ch
