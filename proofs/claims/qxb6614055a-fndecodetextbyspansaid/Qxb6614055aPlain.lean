/-
  PLAIN MATHEMATICS for the two laws over decode: no Go in sight.
-/
namespace Go.Proofs.Qxb6614055a.Plain

/-- The number that digits g 0, g 1, .. (base 256, the greatest first) write, the first k of them. -/
def hor (g : Nat → Nat) : Nat → Nat
  | 0 => 0
  | k + 1 => hor g k * 256 + g k

theorem hor_lt (g : Nat → Nat) (hg : ∀ k, g k < 256) : ∀ k, hor g k < 256 ^ k
  | 0 => by simp [hor]
  | k + 1 => by
    have h := hor_lt g hg k
    have := hg k
    rw [hor, Nat.pow_succ]
    omega

/-- The same, the first digit counted with its sign. -/
def sv (g : Nat → Nat) (n : Nat) : Int := (hor g n : Int) - (if 128 ≤ g 0 then 256 ^ n else 0 : Nat)

theorem sv_one (g : Nat → Nat) : sv g 1 = (g 0 : Int) - (if 128 ≤ g 0 then 256 else 0 : Nat) := by
  simp [sv, hor]

theorem sv_succ (g : Nat → Nat) (k : Nat) : sv g (k + 1) = sv g k * 256 + g k := by
  unfold sv
  rw [hor, Nat.pow_succ]
  split <;> omega

theorem sv_bd (g : Nat → Nat) (hg : ∀ k, g k < 256) : ∀ k, -((128 * 256 ^ k : Nat) : Int) ≤ sv g (k + 1) ∧ sv g (k + 1) < ((128 * 256 ^ k : Nat) : Int)
  | 0 => by
    have := hg 0
    rw [sv_one]
    split <;> simp <;> omega
  | k + 1 => by
    have h := sv_bd g hg k
    have := hg (k + 1)
    rw [sv_succ, Nat.pow_succ]
    omega

theorem hor_congr {g g' : Nat → Nat} : ∀ (k : Nat), (∀ i, i < k → g i = g' i) → hor g k = hor g' k
  | 0, _ => rfl
  | k + 1, h => by rw [hor, hor, hor_congr k (fun i hi => h i (by omega)), h k (by omega)]

theorem hor_split (g : Nat → Nat) (hg : ∀ k, g k < 256) (k : Nat) : (g 0 < 128 ∧ hor g (k + 1) < 128 * 256 ^ k ∧ sv g (k + 1) = hor g (k + 1)) ∨
    (128 ≤ g 0 ∧ 128 * 256 ^ k ≤ hor g (k + 1) ∧ hor g (k + 1) < 256 * 256 ^ k ∧ sv g (k + 1) = (hor g (k + 1) : Int) - (256 * 256 ^ k : Nat)) := by
  have h := sv_bd g hg k
  have h2 := hor_lt g hg (k + 1)
  rw [Nat.pow_succ] at h2
  unfold sv at *
  rw [Nat.pow_succ] at *
  by_cases c : 128 ≤ g 0
  · rw [if_pos c] at *
    right
    refine ⟨c, by omega, by omega, by omega⟩
  · rw [if_neg c] at *
    left
    refine ⟨by omega, by omega, by omega⟩

end Go.Proofs.Qxb6614055a.Plain
