/-
  readInteger and zzPlace: each by a contract.
-/
import Derived.Test.Qxb6614055aRows
import Derived.Test.Qxb6614055aPlain
import Derived.WalkKit
import Derived.WalkLawsBesides
import Derived.WalkSpells
import Derived.ProofKit
import Derived.OpenShut
import Derived.ShutString
import Derived.Deep.RegionHeld3
import Derived.Deep.QuietTactic
import Derived.BigQuiet
import Derived.Laws.Bits64b
import Derived.Laws.BitsAllLaws
namespace Go.Proofs.Qxb6614055a.Dec
open Go.ChangeShapes Go.WideShapes Go.ChangeAt Go.RowKit
open Plain

theorem or256 (u b : Nat) (hu : u < 72057594037927936) (hb : b < 256) : bits .or .u64 (IntKind.u64.wrap ((u : Int) * 256)) (IntKind.u64.wrap (b : Int)) = ((u * 256 + b : Nat) : Int) := by
  have e1 : IntKind.u64.wrap ((u : Int) * 256) = ((u * 256 : Nat) : Int) := by rw [IntKind.wrap_u64]; omega
  have e2 : IntKind.u64.wrap (b : Int) = (b : Int) := by rw [IntKind.wrap_u64]; omega
  rw [e1, e2, bits_or_u64_nat _ _ (by omega) (by omega), nat_join 8 (u * 256) b (by omega) (by omega)]

theorem pow_le (k : Nat) (h : k ≤ 7) : 256 ^ k ≤ 72057594037927936 := by
  have := Nat.pow_le_pow_right (n := 256) (by omega) h
  simpa using this

theorem ret_int {k : IntKind} {a b : Int} (h : a = b) : Ending.returned (.int k a) = .returned (.int k b) := by rw [h]

set_option maxHeartbeats 1000000 in
theorem readInt_core (s : ByteArray) (a n : Nat) (f : Nat → Nat) (v : Int) (HV : Hid (v = sv (fun k => f (n - 1 - k)) n)) (w : World) (A N : Int) (hA : A = (a : Int)) (hN : N = (n : Int)) (h1 : 1 ≤ n) (h8 : n ≤ 8) (hfit : a + n ≤ s.size) (hs : s.size ≤ 4194304)
    (hf : ∀ i (h : a + i < s.size), i < n → s[a + i].toNat = f i) (hb : ∀ i, f i < 256) :
    Calls Try.prog 32 #[.string s, .int .i64 A, .int .i64 N] w fun e w' => e = .returned (.int .i64 v) ∧ w' = w := by
  subst hA hN
  go_enter Try.func32, Try.ntmps32
  go_wp2
  go_loop [7, 8] (fun u i => ∃ (r : Nat) (j : Int), r ≤ n ∧ j = (r : Int) - 1 ∧ i = .int .i64 j ∧ u = .int .u64 (hor (fun k => f (n - 1 - k)) (n - r) : Nat)) (fun _ i => (intOf i + 1).toNat)
  case atStart => exact ⟨n, (n : Int) - 1, Nat.le_refl _, rfl, rfl, by simp [hor]⟩
  case round =>
    obtain ⟨r, j, hr, hj, rfl, rfl⟩ := hrel
    have HU := hor_lt (fun k => f (n - 1 - k)) (fun k => hb _) (n - r)
    obtain ⟨u, hu⟩ : ∃ u, u = hor (fun k => f (n - 1 - k)) (n - r) := ⟨_, rfl⟩
    rw [← hu] at HU ⊢
    rcases r with _ | r
    · have hsp := hor_split (fun k => f (n - 1 - k)) (fun k => hb _) (n - 1)
      rw [show n - 1 + 1 = n from by omega] at hsp
      rw [Nat.sub_zero] at hu
      rw [← hu, ← HV.out] at hsp
      have HSP : Hid ((u < 128 * 256 ^ (n - 1) ∧ v = u) ∨ (128 * 256 ^ (n - 1) ≤ u ∧ u < 256 * 256 ^ (n - 1) ∧ v = (u : Int) - (256 * 256 ^ (n - 1) : Nat))) := by
        rcases hsp with ⟨_, h2, h3⟩ | ⟨_, h2, h3, h4⟩
        · exact .inl ⟨h2, h3⟩
        · exact .inr ⟨h2, h3, h4⟩
      clear hf hu hsp HU
      have hj' : j = -1 := by omega
      subst hj'
      clear hj
      have hn : n = 1 ∨ n = 2 ∨ n = 3 ∨ n = 4 ∨ n = 5 ∨ n = 6 ∨ n = 7 ∨ n = 8 := by omega
      rcases hn with rfl | rfl | rfl | rfl | rfl | rfl | rfl | rfl
      all_goals
        go_wp2
        go_ret
        refine ⟨ret_int ?_, rfl⟩
        have hh := HSP.out
        simp at hh
        unfold wrap64
        rw [IntKind.wrap_u64]
        omega
    · obtain rfl : j = (r : Int) := by omega
      clear hj
      have hlt : a + r < s.size := by omega
      have H1 : Hid (s[a + r].toNat = f r) := hf r hlt (by omega)
      have HH : Hid (u = hor (fun k => f (n - 1 - k)) (n - (r + 1))) := hu
      clear hf hu
      go_wp2
      go_round
      case rel =>
        refine ⟨r, (r : Int) - 1, by omega, rfl, rfl, ?_⟩
        rw [or256 u _ (Nat.lt_of_lt_of_le HU (pow_le _ (by omega))) (UInt8.toNat_lt _), H1.out, HH.out, show n - r = (n - (r + 1)) + 1 from by omega, hor, show n - 1 - (n - (r + 1)) = r from by omega]
      case measure => simp [intOf]

theorem top_byte (x : Nat) (hx : x < 256) : wrap64 (IntKind.i8.wrap (x : Int)) = (x : Int) - (if 128 ≤ x then 256 else 0 : Nat) := by
  have e : IntKind.i8.wrap (x : Int) = (x : Int) - (if 128 ≤ x then 256 else 0 : Nat) := by
    have e1 : (x : Int) % 2 ^ 8 = (x : Int) := by omega
    simp only [IntKind.wrap, IntKind.bits, IntKind.signed, e1]
    by_cases c : 128 ≤ x
    · simp [c]; omega
    · simp [c]; omega
  rw [e]
  unfold wrap64
  split <;> omega

theorem sv_small (g : Nat → Nat) (hg : ∀ k, g k < 256) (k : Nat) (h1 : 1 ≤ k) (h7 : k ≤ 7) : -36028797018963968 ≤ sv g k ∧ sv g k ≤ 36028797018963967 := by
  obtain ⟨j, rfl⟩ : ∃ j, k = j + 1 := ⟨k - 1, by omega⟩
  have h := sv_bd g hg j
  have hp := Nat.pow_le_pow_right (n := 256) (by omega) (show j ≤ 6 by omega)
  have : 128 * 256 ^ j ≤ 36028797018963968 := by
    have e : (256 : Nat) ^ 6 = 281474976710656 := by decide
    omega
  omega

set_option maxHeartbeats 1000000 in
theorem place_core (s : ByteArray) (a n : Nat) (f : Nat → Nat) (v : Int) (HV : Hid (v = sv (fun k => f (n - 1 - k)) n)) (w : World) (A N : Int) (hA : A = (a : Int)) (hN : N = (n : Int)) (h1 : 1 ≤ n) (h8 : n ≤ 8) (hfit : a + n ≤ s.size) (hs : s.size ≤ 4194304)
    (hf : ∀ i (h : a + i < s.size), i < n → s[a + i].toNat = f i) (hb : ∀ i, f i < 256) :
    Calls Try.prog 22 #[.string s, .int .i64 A, .int .i64 N] w fun e w' => e = .returned (.int .i64 v) ∧ w' = w := by
  subst hA hN
  obtain ⟨m, rfl⟩ : ∃ m, n = m + 1 := ⟨n - 1, by omega⟩
  have hlt0 : a + m < s.size := by omega
  have h0 : s[a + m].toNat = f m := hf m hlt0 (by omega)
  have HF : Hid (∀ i (h : a + i < s.size), i < m + 1 → s[a + i].toNat = f i) := hf
  clear hf
  go_enter Try.func22, Try.ntmps22
  go_wp2
  go_loop [7, 8] (fun x i => ∃ (r : Nat) (j y : Int), r ≤ m ∧ j = (r : Int) - 1 ∧ i = .int .i64 j ∧ x = .int .i64 y ∧ y = sv (fun k => f (m - k)) (m + 1 - r)) (fun _ i => (intOf i + 1).toNat)
  case atStart => 
    refine ⟨m, (m : Int) + 1 - 2, _, Nat.le_refl _, by omega, rfl, rfl, ?_⟩
    rw [top_byte _ (hb m), show m + 1 - m = 1 from by omega, sv_one]
    simp
  case round =>
    obtain ⟨r, j, y, hr, hj, rfl, rfl, hy⟩ := hrel
    rcases r with _ | r
    · have HY : Hid (y = v) := by rw [HV.out, hy]; rfl
      clear hy h0
      have hj' : j = -1 := by omega
      subst hj'
      clear hj
      go_wp2
      go_ret
      exact ⟨ret_int HY.out, rfl⟩
    · obtain rfl : j = (r : Int) := by omega
      clear hj
      have hlt : a + r < s.size := by omega
      have hfr : s[a + r].toNat = f r := HF.out r hlt (by omega)
      have hbr := hb r
      have hbd := sv_small (fun k => f (m - k)) (fun k => hb _) (m + 1 - (r + 1)) (by omega) (by omega)
      rw [← hy] at hbd
      have HY : Hid (y = sv (fun k => f (m - k)) (m + 1 - (r + 1))) := hy
      clear hy h0
      go_wp2
      go_round
      case rel =>
        refine ⟨r, (r : Int) - 1, y * 256 + f r, by omega, rfl, rfl, ?_, ?_⟩
        · first | rfl | rw [hfr]
        · rw [show m + 1 - r = (m + 1 - (r + 1)) + 1 from by omega, sv_succ, ← HY.out, show m - (m + 1 - (r + 1)) = r from by omega]
      case measure => simp [intOf]
end Go.Proofs.Qxb6614055a.Dec
