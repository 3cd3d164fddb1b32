/-
  PLAIN MATHEMATICS for the two laws over SearchLines: no Go in sight.
-/
namespace Go.Proofs.Qxb6613369a.Plain

/-- Of G 0, .., G (k - 1): how many are not negative. -/
def cnt (G : Nat → Int) : Nat → Nat
  | 0 => 0
  | k + 1 => cnt G k + if 0 ≤ G k then 1 else 0

/-- The sum of those. -/
def sm (G : Nat → Int) : Nat → Int
  | 0 => 0
  | k + 1 => sm G k + if 0 ≤ G k then G k else 0

/-- The sum of L 0, .., L (k - 1). -/
def tot (L : Nat → Nat) : Nat → Nat
  | 0 => 0
  | k + 1 => tot L k + L k

theorem cnt_le (G : Nat → Int) : ∀ k, cnt G k ≤ k
  | 0 => Nat.le_refl _
  | k + 1 => by have := cnt_le G k; rw [cnt]; split <;> omega

theorem sm_nonneg (G : Nat → Int) : ∀ k, 0 ≤ sm G k
  | 0 => Int.le_refl _
  | k + 1 => by have := sm_nonneg G k; rw [sm]; split <;> omega

theorem sm_le (G : Nat → Int) (L : Nat → Nat) (n : Nat) (h : ∀ j, j < n → G j ≤ L j) : ∀ k, k ≤ n → sm G k ≤ tot L k
  | 0, _ => Int.le_refl _
  | k + 1, hk => by
    have := sm_le G L n h k (by omega)
    have := h k (by omega)
    rw [sm, tot]
    split <;> omega

theorem tot_mono (L : Nat → Nat) : ∀ {k n : Nat}, k ≤ n → tot L k ≤ tot L n
  | k, 0, h => by have : k = 0 := by omega
                  subst this; exact Nat.le_refl _
  | k, n + 1, h => by
    by_cases e : k = n + 1
    · subst e; exact Nat.le_refl _
    · have := tot_mono L (show k ≤ n by omega)
      rw [tot]; omega

theorem tot_split (L : Nat → Nat) (k : Nat) : ∀ m, tot L (k + m) = tot L k + tot (fun j => L (k + j)) m
  | 0 => by simp [tot]
  | m + 1 => by rw [← Nat.add_assoc, tot, tot, tot_split L k m]; omega

theorem cnt_split (G : Nat → Int) (k : Nat) : ∀ m, cnt G (k + m) = cnt G k + cnt (fun j => G (k + j)) m
  | 0 => by simp [cnt]
  | m + 1 => by rw [← Nat.add_assoc, cnt, cnt, cnt_split G k m]; omega

theorem sm_split (G : Nat → Int) (k : Nat) : ∀ m, sm G (k + m) = sm G k + sm (fun j => G (k + j)) m
  | 0 => by simp [sm]
  | m + 1 => by rw [← Nat.add_assoc, sm, sm, sm_split G k m]; omega

theorem cnt_congr {G G' : Nat → Int} : ∀ (k : Nat), (∀ j, j < k → G j = G' j) → cnt G k = cnt G' k
  | 0, _ => rfl
  | k + 1, h => by rw [cnt, cnt, cnt_congr k (fun j hj => h j (by omega)), h k (by omega)]

theorem sm_congr {G G' : Nat → Int} : ∀ (k : Nat), (∀ j, j < k → G j = G' j) → sm G k = sm G' k
  | 0, _ => rfl
  | k + 1, h => by rw [sm, sm, sm_congr k (fun j hj => h j (by omega)), h k (by omega)]

theorem cnt_len (L : Nat → Nat) : ∀ k, cnt (fun j => (L j : Int)) k = k
  | 0 => rfl
  | k + 1 => by rw [cnt, cnt_len L k, if_pos (by omega)]

theorem sm_len (L : Nat → Nat) : ∀ k, sm (fun j => (L j : Int)) k = tot L k
  | 0 => rfl
  | k + 1 => by rw [sm, tot, sm_len L k, if_pos (by omega)]; omega

end Go.Proofs.Qxb6613369a.Plain
