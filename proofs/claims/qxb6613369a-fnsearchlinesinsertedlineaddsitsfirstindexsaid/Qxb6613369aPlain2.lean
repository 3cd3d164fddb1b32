/-
  PLAIN MATHEMATICS: a family with one member put in. No Go in sight.
-/
import Derived.Test.Qxb6613369aPlain
namespace Go.Proofs.Qxb6613369a.Plain

/-- F with x put in at place p. -/
def ix {α : Type} (F : Nat → α) (x : α) (p : Nat) (j : Nat) : α := if j < p then F j else if j = p then x else F (j - 1)

theorem ix_lt {α : Type} (F : Nat → α) (x : α) {p j : Nat} (h : j < p) : ix F x p j = F j := by rw [ix, if_pos h]
theorem ix_at {α : Type} (F : Nat → α) (x : α) (p : Nat) : ix F x p p = x := by rw [ix, if_neg (by omega), if_pos rfl]
theorem ix_gt {α : Type} (F : Nat → α) (x : α) (p j : Nat) : ix F x p (p + 1 + j) = F (p + j) := by
  rw [ix, if_neg (by omega), if_neg (by omega)]
  congr 1
  omega

theorem cnt_ix (G : Nat → Int) (x : Int) (p m : Nat) : cnt (ix G x p) (p + 1 + m) = cnt G (p + m) + if 0 ≤ x then 1 else 0 := by
  rw [cnt_split _ (p + 1) m, cnt_split G p m, cnt, ix_at, cnt_congr (G := ix G x p) (G' := G) p (fun j hj => ix_lt G x hj), cnt_congr (G := fun j => ix G x p (p + 1 + j)) (G' := fun j => G (p + j)) m (fun j _ => ix_gt G x p j)]
  omega

theorem sm_ix (G : Nat → Int) (x : Int) (p m : Nat) : sm (ix G x p) (p + 1 + m) = sm G (p + m) + if 0 ≤ x then x else 0 := by
  rw [sm_split _ (p + 1) m, sm_split G p m, sm, ix_at, sm_congr (G := ix G x p) (G' := G) p (fun j hj => ix_lt G x hj), sm_congr (G := fun j => ix G x p (p + 1 + j)) (G' := fun j => G (p + j)) m (fun j _ => ix_gt G x p j)]
  omega

theorem tot_congr {L L' : Nat → Nat} : ∀ (k : Nat), (∀ j, j < k → L j = L' j) → tot L k = tot L' k
  | 0, _ => rfl
  | k + 1, h => by rw [tot, tot, tot_congr k (fun j hj => h j (by omega)), h k (by omega)]

theorem tot_ix (L : Nat → Nat) (x : Nat) (p m : Nat) : tot (ix L x p) (p + 1 + m) = tot L (p + m) + x := by
  rw [tot_split _ (p + 1) m, tot_split L p m, tot, ix_at, tot_congr (L := ix L x p) (L' := L) p (fun j hj => ix_lt L x hj), tot_congr (L := fun j => ix L x p (p + 1 + j)) (L' := fun j => L (p + j)) m (fun j _ => ix_gt L x p j)]
  omega

/-- A property of every member, the one put in too. -/
theorem ix_all {p m : Nat} {Q : Nat → Prop} (h1 : ∀ j, j < p → Q j) (h2 : Q p) (h3 : ∀ j, j < m → Q (p + 1 + j)) : ∀ j, j < p + 1 + m → Q j := by
  intro j hj
  by_cases a : j < p
  · exact h1 j a
  · by_cases b : j = p
    · subst b; exact h2
    · have := h3 (j - (p + 1)) (by omega)
      rwa [show p + 1 + (j - (p + 1)) = j from by omega] at this

end Go.Proofs.Qxb6613369a.Plain
