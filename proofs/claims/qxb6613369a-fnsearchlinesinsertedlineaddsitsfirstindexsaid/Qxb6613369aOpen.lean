/-
  The lines that came in, opened.
-/
import Derived.Test.Qxb6613369aRows
import Derived.WalkKit
import Derived.ProofKit
import Derived.OpenShut
import Derived.ChangeOld
import Derived.Below
import Derived.Deep.Matrix
namespace Go.Proofs.Qxb6613369a
open Go.ChangeShapes Go.WideShapes Go.ChangeAt Go.RowKit

theorem Try.cells24 : Try.prog.cellsOf 24 = 1 := by kernel_rfl
theorem Try.cells5 : Try.prog.cellsOf 5 = 1 := by kernel_rfl

/-- A row of bytes: nil, or so many bytes behind its address. -/
def IsRow (w : World) (a : Option Addr) (len cap : Nat) (z : Nat → Int) : Prop :=
  len ≤ cap ∧ cap ≤ maxLen ∧ (a = none → cap = 0) ∧ ∀ x, a = some x → ∀ j, j < cap → w.cell? (x.add j) = some (.int .u8 (z j))

/-- WHAT THE WALK IS TOLD OF THE LINES THAT CAME IN: the slice is nil; it is empty; or each line's header lies behind the slice's address, and is a row of bytes. -/
def IsLines (w : World) (a : Option Addr) (len cap : Nat) : Prop :=
  (a = none ∧ len = 0 ∧ cap = 0) ∨ ∃ x, a = some x ∧ len ≤ cap ∧ cap ≤ maxLen ∧ (len = 0 ∨ ∃ (b off : Nat) (A : Nat → Option Addr) (L C : Nat → Nat) (Z : Nat → Nat → Int), x = ⟨b, off, none⟩ ∧ 0 < len ∧
    (∀ i, i < len → w.cell? ⟨b, off + i, none⟩ = some (.slice (A i) (L i) (C i))) ∧ ∀ i, i < len → IsRow w (A i) (L i) (C i) (Z i))

theorem lines_open {H : Type} {enc : TypeId × Value → H} {W : World} {a0 : Option Addr} {len0 cap0 fuel : Nat} {x : DataW H × List MemPlace} (hf : DataW.trod enc Try.prog W 0 (fun _ => true) true fuel 22 [.slice a0 len0 cap0] = some x) : IsLines W a0 len0 cap0 := by
  rcases Go.Deep.open_int_rows Try.underlying22 Try.underlying24 Try.underlying5 Try.cells24 Try.cells5 hf with ⟨hcs, _⟩ | ⟨a, l, c, A, L, C, Z, hcs, _, hl, hm, _, hx⟩
  · simp at hcs
    exact .inl hcs
  · simp at hcs
    obtain ⟨rfl, rfl, rfl⟩ := hcs
    right
    refine ⟨a, rfl, hl, hm, ?_⟩
    by_cases h0 : len0 = 0
    · exact .inl h0
    right
    obtain ⟨b, off, spot⟩ := a
    have hspot : spot = none := by
      have := World.cell?_spot (hx 0 (by omega)).1
      simpa [Addr.add] using this
    subst hspot
    refine ⟨b, off, A, L, C, fun r j => (Z r).getD j 0, rfl, by omega, fun i hi => ?_, fun i hi => ?_⟩
    · have := (hx i (by omega)).1; rwa [add_plain] at this
    · obtain ⟨_, h1, h2, h3, _, h4, h5⟩ := hx i (by omega)
      exact ⟨h1, h2, h4, fun y hy => (h5 y hy).2⟩

end Go.Proofs.Qxb6613369a
