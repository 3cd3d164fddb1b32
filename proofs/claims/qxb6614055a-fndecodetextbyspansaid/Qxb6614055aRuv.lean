/-
  readUvarint by its contracts.
-/
import Derived.Test.Qxb6614055aUv
namespace Go.Proofs.Qxb6614055a.Dec
open Go.ChangeShapes Go.WideShapes Go.ChangeAt Go.RowKit
open Plain

theorem pow27 (k : Nat) : 2 ^ (7 * k) = 128 ^ k := by rw [Nat.pow_mul]

theorem orshl (u b k : Nat) (hu : u < 128 ^ k) (hb : b < 256) (hfit : u + b % 128 * 128 ^ k < 18446744073709551616) :
    bits .or .u64 (u : Int) (IntKind.u64.wrap (IntKind.u64.wrap (bits .and .u8 (b : Int) 127) * 2 ^ (7 * k))) = ((u + b % 128 * 128 ^ k : Nat) : Int) := by
  have e2 : bits .and .u8 (b : Int) 127 = ((b % 128 : Nat) : Int) := by
    have := u8_and_nat b 127 hb (by omega)
    rw [nat_mask7] at this
    exact this
  have e3 : IntKind.u64.wrap ((b % 128 : Nat) : Int) = ((b % 128 : Nat) : Int) := by rw [IntKind.wrap_u64]; omega
  have e4 : ((b % 128 : Nat) : Int) * 2 ^ (7 * k) = ((b % 128 * 128 ^ k : Nat) : Int) := by
    rw [← pow27, Int.natCast_mul, Int.natCast_pow]
    rfl
  have e5 : IntKind.u64.wrap ((b % 128 * 128 ^ k : Nat) : Int) = ((b % 128 * 128 ^ k : Nat) : Int) := by rw [IntKind.wrap_u64]; omega
  rw [e2, e3, e4, e5, bits_or_u64_nat _ _ (by omega) (by omega), Nat.or_comm, nat_join (7 * k) (b % 128 * 128 ^ k) u (by rw [pow27]; exact Nat.mul_mod_left _ _) (by rw [pow27]; exact hu), Nat.add_comm]

theorem vl_fit (f : Nat → Nat) (k : Nat) (h : k ≤ 8) : vl f k + f k % 128 * 128 ^ k < 18446744073709551616 := by
  have h1 := vl_lt f (k + 1)
  have h2 := Nat.pow_le_pow_right (n := 128) (by omega) (show k + 1 ≤ 9 by omega)
  rw [pow128] at h2
  rw [vl] at h1
  omega

set_option maxRecDepth 100000 in
set_option maxHeartbeats 1000000 in
theorem ruv_good (b : ByteArray) (l : Nat) (f : Nat → Nat) (w : World) (hs : b.size ≤ 4194304)
    (HF : Hid (∀ i (h : i < b.size), b[i].toNat = f i)) (HB : Hid (∀ i, f i < 256)) (HG : Hid (GoodUv f b.size l)) :
    Calls Try.prog 36 #[.string b] w fun e w' => e = .returned (.tuple #[.int .u64 (vl f (l + 1)), .int .i64 ((l : Int) + 1)]) ∧ w' = w := by
  have hl : l < 10 := HG.out.1
  have hlm : l < b.size := HG.out.2.1
  have hfl : f l < 128 := HG.out.2.2.1
  have hsl : b[l].toNat = f l := HF.out l hlm
  have h0b : 0 < b.size := by omega
  have hs0 : b[0].toNat = f 0 := HF.out 0 (by omega)
  by_cases e0 : l = 0
  · subst e0
    have HE : Hid (f 0 = vl f (0 + 1)) := by unfold Hid; simp [vl]; omega
    have hb0 := HB.out 0
    go_enter Try.func36, Try.ntmps36
    go_wp2
    go_ret2
    refine ⟨ret_uv2 (x := .int .i64 1) ?_, rfl⟩
    have h := HE.out
    simp only [Nat.zero_add] at h
    rw [h]
  · have h0 : 128 ≤ f 0 := HG.out.2.2.2.1 0 (by omega)
    have hd0 : decide (((f 0 : Nat) : Int) < 128) = false := by simp; omega
    go_enter Try.func36, Try.ntmps36
    go_wp2
    clear hs0 h0 hd0
    go_loop [4, 5] (fun u i => ∃ k : Nat, k ≤ l ∧ u = .int .u64 (vl f k : Nat) ∧ i = .int .i64 k) (fun _ i => l - (intOf i).toNat)
    case atStart => exact ⟨0, Nat.zero_le _, rfl, rfl⟩
    case round =>
      obtain ⟨k, hk, rfl, rfl⟩ := hrel
      by_cases hkl : k < l
      · have hlt : k < b.size := by omega
        have hsk : b[k].toNat = f k := HF.out k hlt
        have hfk : 128 ≤ f k := HG.out.2.2.2.1 k hkl
        have hbk := HB.out k
        have hk9 : ((k : Int) == 9) = false := by simp; omega
        clear hsl hfl
        go_wp2
        go_round
        case rel =>
          refine ⟨k + 1, by omega, ?_, by go_num⟩
          rw [orshl _ _ _ (vl_lt f k) hbk (vl_fit f k (by omega)), vl]
        case measure => simp [intOf]; omega
      · obtain rfl : k = l := by omega
        have HV := vl_good f _ _ HG.out
        have HE : Hid (bits .or .u64 ((vl f k : Nat) : Int) (IntKind.u64.wrap (IntKind.u64.wrap (bits .and .u8 ((f k : Nat) : Int) 127) * 2 ^ (7 * k))) = ((vl f (k + 1) : Nat) : Int)) := by
          rw [vl] at HV
          unfold Hid
          rw [orshl _ _ _ (vl_lt f k) (HB.out k) HV, vl]
        have hd1 : decide (((f k : Nat) : Int) < 128) = true := by simp; omega
        have h9 : (((k : Int) == 9) = false) ∨ ((((k : Int) == 9) = true) ∧ decide ((1 : Int) < ((f k : Nat) : Int)) = false) := by
          by_cases e : k = 9
          · right
            subst e
            have := HG.out.2.2.2.2 rfl
            exact ⟨rfl, by simp; omega⟩
          · left
            simp; omega
        clear HV
        rcases h9 with h9 | ⟨h9, h91⟩
        all_goals
          go_wp2
          go_ret2
          exact ⟨ret_uv2 (x := .int .i64 ((k : Int) + 1)) HE.out, rfl⟩

set_option maxRecDepth 100000 in
set_option maxHeartbeats 1000000 in
theorem ruv_none (b : ByteArray) (f : Nat → Nat) (w : World) (hs : b.size ≤ 4194304)
    (HF : Hid (∀ i (h : i < b.size), b[i].toNat = f i)) (HB : Hid (∀ i, f i < 256)) (HG : Hid (∀ l, ¬ GoodUv f b.size l)) :
    Calls Try.prog 36 #[.string b] w fun e w' => e = .returned (.tuple #[.int .u64 0, .int .i64 0]) ∧ w' = w := by
  by_cases hb0 : b.size = 0
  · have hd : decide ((0 : Int) < ((b.size : Nat) : Int)) = false := decide_eq_false (by omega)
    have hb1 : b.size ≤ 0 := by omega
    clear hb0
    go_enter Try.func36, Try.ntmps36
    go_wp2
    refine wp_loop_rounds 1 ?_
    rw [rounds_succ]
    go_wp2
    go_ret2
    exact ⟨rfl, rfl⟩
  have h0b : 0 < b.size := by omega
  have hs0 : b[0].toNat = f 0 := HF.out 0 (by omega)
  have h0 : 128 ≤ f 0 := by
    have := HG.out 0
    unfold GoodUv at this
    by_cases h : 128 ≤ f 0
    · exact h
    · exact absurd ⟨by omega, by omega, by omega, fun j hj => absurd hj (Nat.not_lt_zero _), fun h => absurd h (by omega)⟩ this
  have hd0 : decide (((f 0 : Nat) : Int) < 128) = false := by simp; omega
  go_enter Try.func36, Try.ntmps36
  go_wp2
  clear hs0 h0 hd0
  go_loop [4, 5] (fun u i => ∃ k : Nat, k ≤ 10 ∧ k ≤ b.size ∧ u = .int .u64 (vl f k : Nat) ∧ i = .int .i64 k ∧ ∀ i, i < k → 128 ≤ f i) (fun _ i => 10 - (intOf i).toNat)
  case atStart => exact ⟨0, Nat.zero_le _, Nat.zero_le _, rfl, rfl, fun i hi => absurd hi (Nat.not_lt_zero _)⟩
  case round =>
    obtain ⟨k, hk, hka, rfl, rfl, hall⟩ := hrel
    have HA : Hid (∀ i, i < k → 128 ≤ f i) := hall
    clear hall
    by_cases hlt : k < 10 ∧ k < b.size
    · obtain ⟨h10, hlt⟩ := hlt
      have hsk : b[k].toNat = f k := HF.out k hlt
      have hbk := HB.out k
      by_cases e9 : k = 9
      · subst e9
        have h1 : 1 < f 9 := by
          have := HG.out 9
          unfold GoodUv at this
          by_cases h : 1 < f 9
          · exact h
          · exact absurd ⟨by omega, by omega, by omega, HA.out, fun _ => by omega⟩ this
        go_wp2
        go_ret2
        exact ⟨rfl, rfl⟩
      · have hfk : 128 ≤ f k := by
          have := HG.out k
          unfold GoodUv at this
          by_cases h : 128 ≤ f k
          · exact h
          · exact absurd ⟨by omega, by omega, by omega, HA.out, fun h => absurd h e9⟩ this
        have hk9 : ((k : Int) == 9) = false := by simp; omega
        go_wp2
        go_round
        case rel =>
          refine ⟨k + 1, by omega, by omega, ?_, by go_num, fun i hi => ?_⟩
          · rw [orshl _ _ _ (vl_lt f k) hbk (vl_fit f k (by omega)), vl]
          · by_cases e : i = k
            · subst e; exact hfk
            · exact HA.out i (by omega)
        case measure => simp [intOf]; omega
    · by_cases hkb : k < b.size
      · have h10 : k = 10 := by omega
        subst h10
        go_wp2
        go_ret2
        exact ⟨rfl, rfl⟩
      · have hd : decide ((k : Int) < ((b.size : Nat) : Int)) = false := by simp; omega
        go_wp2
        go_ret2
        exact ⟨rfl, rfl⟩
end Go.Proofs.Qxb6614055a.Dec
