/-
  PLAIN MATHEMATICS of the uvarint: no Go in sight.
-/
namespace Go.Proofs.Qxb6614055a.Plain

/-- The number that the low seven bits of f 0, .., f (k - 1) write, the least first. -/
def vl (f : Nat → Nat) : Nat → Nat
  | 0 => 0
  | k + 1 => vl f k + f k % 128 * 128 ^ k

theorem vl_lt (f : Nat → Nat) : ∀ k, vl f k < 128 ^ k
  | 0 => by simp [vl]
  | k + 1 => by
    have h := vl_lt f k
    have h2 : f k % 128 ≤ 127 := by omega
    have h3 := Nat.mul_le_mul_right (128 ^ k) h2
    rw [vl, Nat.pow_succ]
    omega

/-- The uvarint that bytes f 0, f 1, .. (m of them are there) begin with ends at byte l, and fits in 64 bits. -/
def GoodUv (f : Nat → Nat) (m l : Nat) : Prop := l < 10 ∧ l < m ∧ f l < 128 ∧ (∀ j, j < l → 128 ≤ f j) ∧ (l = 9 → f 9 ≤ 1)

theorem pow128 : (128 : Nat) ^ 9 = 9223372036854775808 := by decide

theorem vl_mono (f : Nat → Nat) (k : Nat) : vl f k ≤ vl f (k + 1) := by rw [vl]; omega

theorem vl_good (f : Nat → Nat) (m l : Nat) (h : GoodUv f m l) : vl f (l + 1) < 18446744073709551616 := by
  obtain ⟨h1, _, _, _, h9⟩ := h
  by_cases e : l = 9
  · subst e
    have := vl_lt f 9
    have h2 := h9 rfl
    have h3 : f 9 % 128 ≤ 1 := by omega
    have h4 := Nat.mul_le_mul_right (128 ^ 9) h3
    rw [vl]
    rw [pow128] at *
    omega
  · have := vl_lt f (l + 1)
    have h2 := Nat.pow_le_pow_right (n := 128) (by omega) (show l + 1 ≤ 9 by omega)
    rw [pow128] at h2
    omega

theorem uv_step {v j V : Nat} {f : Nat → Nat} (h : v * 128 ^ (j + 1) + vl f (j + 1) = V) : (v * 128 + f j % 128) * 128 ^ j + vl f j = V := by
  rw [vl, Nat.pow_succ] at h
  have e : v * 128 * 128 ^ j = v * (128 ^ j * 128) := by rw [Nat.mul_assoc, Nat.mul_comm 128]
  rw [Nat.add_mul]
  omega

theorem uv_lt {v j V : Nat} {f : Nat → Nat} (h : v * 128 ^ (j + 1) + vl f (j + 1) = V) (hV : V < 18446744073709551616) : v * 128 < 18446744073709551616 := by
  have h1 : 128 ≤ 128 ^ (j + 1) := by
    have := Nat.pow_le_pow_right (n := 128) (by omega) (show 1 ≤ j + 1 by omega)
    simpa using this
  have := Nat.mul_le_mul_left v h1
  omega

end Go.Proofs.Qxb6614055a.Plain
