/-
  Rows of cells: what the walks are told of a slice.
-/
import Derived.Test.Qxb6613968aLocks
import Derived.Deep.RegionHeld3
namespace Go.Proofs.Qxb6613968a.Ch
open Go.ChangeShapes Go.WideShapes Go.ChangeAt Go.RowKit
set_option linter.unusedVariables false

/-- The n cells behind the address hold H 0, .., H (n - 1). -/
def RowAt (w : World) (H : Nat → Value) (n : Nat) (ao : Option Addr) : Prop :=
  0 < n → ∃ b off, ao = some ⟨b, off, none⟩ ∧ ∀ j, j < n → w.cell? ⟨b, off + j, none⟩ = some (H j)

theorem RowAt.later {w w' : World} {H : Nat → Value} {n : Nat} {ao : Option Addr} (h : RowAt w H n ao) (hb : Below w.heap.size w w') : RowAt w' H n ao := fun hn => by
  obtain ⟨b, off, e, hc⟩ := h hn
  exact ⟨b, off, e, fun j hj => cell_later hb (hc j hj)⟩

/-- What a clone hands back: nil for nil, else a new row of the same cells. -/
def CloneOut (H : Nat → Value) (n : Nat) (ao : Option Addr) (w : World) (e : Ending) (w' : World) : Prop :=
  ∃ ao', (ao' = none ↔ ao = none) ∧ e = .returned (.slice ao' n n) ∧ Below w.heap.size w w' ∧ RowAt w' H n ao'

/-- One store into a row that the call makes. -/
theorem row_step {w wr : World} {B k n : Nat} {H : Nat → Value} (hB : B = w.heap.size) (hk : k < n) (hbl : Below B w wr) (hth : wr.there B 0 n) (hrow : ∀ j, j < k → wr.cell? ⟨B, j, none⟩ = some (H j)) :
    Below B w (wr.setCell ⟨B, k, none⟩ (H k)) ∧ (wr.setCell ⟨B, k, none⟩ (H k)).there B 0 n ∧ ∀ j, j < k + 1 → (wr.setCell ⟨B, k, none⟩ (H k)).cell? ⟨B, j, none⟩ = some (H j) := by
  have e : wr.setCell ⟨B, k, none⟩ (H k) = wr.setCells B k [H k] := rfl
  have hs := (hth k hk).1
  rw [Nat.zero_add] at hs
  obtain ⟨u, hu⟩ := Option.isSome_iff_exists.1 hs
  refine ⟨hbl.setCell (by simp) _, by rw [e]; exact World.there_setCells hth _ _ _, fun j hj => ?_⟩
  by_cases h : j = k
  · subst h
    exact World.cell?_setCell_same _ _ _ hu
  · rw [World.cell?_setCell_other _ _ _ _ (by intro e; cases e; exact h rfl)]
    exact hrow j (by omega)

theorem there_made {w1 : World} {base e n cap : Nat} {g : Nat} {xs : List Value} (hown : w1.ownsRow base e 1 (.slice (some ⟨g, 0, none⟩) n cap) n xs) : w1.there g 0 n := fun j hj => by
  rw [Nat.zero_add]
  refine ⟨?_, hown.frozenAt j⟩
  rw [hown.cellAt j (by omega)]
  have := hown.1
  simp [List.getElem?_eq_getElem (show j < _ from by rw [this]; omega)]

end Go.Proofs.Qxb6613968a.Ch
