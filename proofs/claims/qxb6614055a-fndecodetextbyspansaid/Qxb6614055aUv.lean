/-
  zzUvarint by its contracts.
-/
import Derived.Test.Qxb6614055aNumLaws
import Derived.Test.Qxb6614055aPlain2
import Derived.Deep.LoopGhost
namespace Go.Proofs.Qxb6614055a.Dec
open Go.ChangeShapes Go.WideShapes Go.ChangeAt Go.RowKit
open Plain

theorem or128 (v b : Nat) (hv : v * 128 < 18446744073709551616) (hb : b < 256) : bits .or .u64 (IntKind.u64.wrap ((v : Int) * 128)) (IntKind.u64.wrap (bits .and .u8 (b : Int) 127)) = ((v * 128 + b % 128 : Nat) : Int) := by
  have e1 : IntKind.u64.wrap ((v : Int) * 128) = ((v * 128 : Nat) : Int) := by rw [IntKind.wrap_u64]; omega
  have e2 : bits .and .u8 (b : Int) 127 = ((b % 128 : Nat) : Int) := by
    have := u8_and_nat b 127 hb (by omega)
    rw [nat_mask7] at this
    exact this
  have e3 : IntKind.u64.wrap ((b % 128 : Nat) : Int) = ((b % 128 : Nat) : Int) := by rw [IntKind.wrap_u64]; omega
  rw [e2, e1, e3, bits_or_u64_nat _ _ (by omega) (by omega), nat_join 7 (v * 128) (b % 128) (by omega) (by omega)]

theorem ret_uv {v v' : Int} {x y : Value} (h : v = v') : Ending.returned (.tuple #[.int .u64 v, x, y]) = .returned (.tuple #[.int .u64 v', x, y]) := by rw [h]
theorem ret_uv2 {v v' : Int} {x : Value} (h : v = v') : Ending.returned (.tuple #[.int .u64 v, x]) = .returned (.tuple #[.int .u64 v', x]) := by rw [h]

set_option maxRecDepth 100000 in
set_option maxHeartbeats 1000000 in
theorem zzuv_good (s : ByteArray) (a l : Nat) (f : Nat → Nat) (w : World) (hs : s.size ≤ 4194304) (ha : a ≤ s.size)
    (HF : Hid (∀ i (h : a + i < s.size), s[a + i].toNat = f i)) (HB : Hid (∀ i, f i < 256)) (HG : Hid (GoodUv f (s.size - a) l)) :
    Calls Try.prog 25 #[.string s, .int .i64 a] w fun e w' => e = .returned (.tuple #[.int .u64 (vl f (l + 1)), .int .i64 ((l : Int) + 1), .bool true]) ∧ w' = w := by
  have hl : l < 10 := HG.out.1
  have hlm : a + l < s.size := by have := HG.out.2.1; omega
  have hfl : f l < 128 := HG.out.2.2.1
  have hsl : s[a + l].toNat = f l := HF.out l hlm
  go_enter Try.func25, Try.ntmps25
  go_wp2
  go_loop [7, 8] (fun x j => ∃ k : Nat, k ≤ l ∧ x = .int .i64 (-1) ∧ j = .int .i64 k) (fun _ j => l - (intOf j).toNat)
  case atStart => exact ⟨0, Nat.zero_le _, rfl, rfl⟩
  case round =>
    obtain ⟨k, hk, rfl, rfl⟩ := hrel
    by_cases hkl : k < l
    · have hlt : a + k < s.size := by omega
      have hsk : s[a + k].toNat = f k := HF.out k hlt
      have hfk : 128 ≤ f k := HG.out.2.2.2.1 k hkl
      have hbk := HB.out k
      clear hsl hfl
      go_wp2
      go_round
      case rel => exact ⟨k + 1, by omega, rfl, by go_num⟩
      case measure => simp [intOf]; omega
    · obtain rfl : k = l := by omega
      have HV := vl_good f _ _ HG.out
      have h9 : (((k : Int) == 9) = false) ∨ ((((k : Int) == 9) = true) ∧ ∃ h : a + 9 < s.size, s[a + 9].toNat ≤ 1) := by
        by_cases e : k = 9
        · right
          subst e
          exact ⟨rfl, hlm, by rw [hsl]; exact HG.out.2.2.2.2 rfl⟩
        · left
          simp; omega
      have hd1 : decide (((f k : Nat) : Int) < 128) = true := by simp; omega
      have hd2 : decide ((k : Int) < 0) = false := by simp
      rcases h9 with h9 | ⟨h9, hlt9, hs9⟩
      have hd3 : True := trivial
      rotate_left
      have hd3 : decide ((1 : Int) < ((s[a + 9].toNat : Nat) : Int)) = false := by simp; omega
      all_goals
        go_wp2
        go_loopg [9, 10] (k + 1) (fun r x i wr => ∃ (v : Nat) (j : Int), wr = w ∧ r ≤ k + 1 ∧ j = (r : Int) - 1 ∧ i = .int .i64 j ∧ x = .int .u64 (v : Nat) ∧ v * 128 ^ r + vl f r = vl f (k + 1))
        case atStart => exact ⟨0, (k : Int), rfl, Nat.le_refl _, by omega, rfl, rfl, by omega⟩
        case round =>
          obtain ⟨v, j, hw, hr, hj, rfl, rfl, hv⟩ := hrel
          subst hw
          obtain ⟨r, hgk⟩ : ∃ r, r = gk := ⟨_, rfl⟩
          rw [← hgk] at hr hj hv
          rcases r with _ | r
          · obtain rfl : j = -1 := by omega
            have HE : v = vl f (k + 1) := by simpa [vl] using hv
            have HE : Hid (v = vl f (k + 1)) := HE
            clear hv hj hgk
            go_wp2
            go_ret3
            exact ⟨ret_uv (x := .int .i64 ((k : Int) + 1)) (y := .bool true) (by rw [HE.out]), rfl⟩
          · obtain rfl : j = (r : Int) := by omega
            have hlt : a + r < s.size := by omega
            have hsr : s[a + r].toNat = f r := HF.out r hlt
            have H1 : Hid (v * 128 ^ (r + 1) + vl f (r + 1) = vl f (k + 1)) := hv
            have HK : Hid (r + 1 = gk) := hgk
            clear hv hj hsl hgk
            go_wp2
            go_roundg r
            case rel =>
              refine ⟨v * 128 + f r % 128, (r : Int) - 1, rfl, by omega, rfl, rfl, ?_, uv_step H1.out⟩
              rw [or128 v _ (uv_lt H1.out HV) (HB.out r)]
            case measure => have := HK.out; omega

set_option maxRecDepth 100000 in
set_option maxHeartbeats 1000000 in
theorem zzuv_none (s : ByteArray) (a : Nat) (f : Nat → Nat) (w : World) (hs : s.size ≤ 4194304) (ha : a ≤ s.size)
    (HF : Hid (∀ i (h : a + i < s.size), s[a + i].toNat = f i)) (HB : Hid (∀ i, f i < 256)) (HG : Hid (∀ l, ¬ GoodUv f (s.size - a) l)) :
    Calls Try.prog 25 #[.string s, .int .i64 a] w fun e w' => e = .returned (.tuple #[.int .u64 0, .int .i64 0, .bool false]) ∧ w' = w := by
  go_enter Try.func25, Try.ntmps25
  go_wp2
  go_loop [7, 8] (fun x j => ∃ k : Nat, k ≤ 10 ∧ a + k ≤ s.size ∧ x = .int .i64 (-1) ∧ j = .int .i64 k ∧ ∀ i, i < k → 128 ≤ f i) (fun _ j => 10 - (intOf j).toNat)
  case atStart => exact ⟨0, by omega, by omega, rfl, rfl, fun i hi => absurd hi (Nat.not_lt_zero _)⟩
  case round =>
    obtain ⟨k, hk, hka, rfl, rfl, hall⟩ := hrel
    have HA : Hid (∀ i, i < k → 128 ≤ f i) := hall
    clear hall
    by_cases hlt : k < 10 ∧ a + k < s.size
    · obtain ⟨h10, hlt⟩ := hlt
      have hsk : s[a + k].toNat = f k := HF.out k hlt
      have hbk := HB.out k
      by_cases hfk : 128 ≤ f k
      · go_wp2
        go_round
        case rel =>
          refine ⟨k + 1, by omega, by omega, rfl, by go_num, fun i hi => ?_⟩
          by_cases e : i = k
          · subst e; exact hfk
          · exact HA.out i (by omega)
        case measure => simp [intOf]; omega
      · have h9 : k = 9 ∧ 1 < f 9 := by
          have := HG.out k
          unfold GoodUv at this
          by_cases e : k = 9
          · refine ⟨e, ?_⟩
            by_cases h1 : f 9 ≤ 1
            · exact absurd ⟨h10, by omega, by omega, HA.out, fun _ => h1⟩ this
            · omega
          · exact absurd ⟨h10, by omega, by omega, HA.out, fun h => absurd h e⟩ this
        obtain ⟨rfl, h1⟩ := h9
        go_wp2
        go_ret3
        exact ⟨rfl, rfl⟩
    · by_cases h10 : k < 10
      · have hd : decide ((k : Int) < 10) = true := by simp; omega
        have hge : s.size ≤ a + k := by omega
        go_wp2
        go_ret3
        exact ⟨rfl, rfl⟩
      · obtain rfl : k = 10 := by omega
        go_wp2
        go_ret3
        exact ⟨rfl, rfl⟩
end Go.Proofs.Qxb6614055a.Dec
