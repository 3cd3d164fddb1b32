/-
  zzFirstByte, the closure over it, zzBytes with a line: each by a contract.
-/
import Derived.Test.Qxb6613369aSearch
import Derived.Test.Qxb6613369aCut
import Derived.Test.Qxb6613369aOpen
namespace Go.Proofs.Qxb6613369a.SL
open Go.ChangeShapes Go.WideShapes Go.ChangeAt Go.RowKit
open Plain
set_option linter.unusedVariables false

/-- The first index below k at which z is c, or -1. -/
def fb (z : Nat → Int) (c : Int) : Nat → Int
  | 0 => -1
  | k + 1 => if 0 ≤ fb z c k then fb z c k else if z k = c then (k : Int) else -1

theorem fb_bd (z : Nat → Int) (c : Int) : ∀ k, -1 ≤ fb z c k ∧ fb z c k ≤ (k : Int)
  | 0 => by simp [fb]
  | k + 1 => by
    have := fb_bd z c k
    rw [fb]
    split
    · omega
    · split <;> omega

theorem fb_stay (z : Nat → Int) (c : Int) (k : Nat) (h : 0 ≤ fb z c k) : ∀ m, fb z c (k + m) = fb z c k
  | 0 => rfl
  | m + 1 => by rw [← Nat.add_assoc, fb, fb_stay z c k h m, if_pos h]

theorem fb_hit (z : Nat → Int) (c : Int) (k n : Nat) (hk : k < n) (h : fb z c k = -1) (hz : z k = c) : fb z c n = (k : Int) := by
  have h1 : fb z c (k + 1) = (k : Int) := by rw [fb, if_neg (by omega), if_pos hz]
  have := fb_stay z c (k + 1) (by omega) (n - (k + 1))
  rw [show k + 1 + (n - (k + 1)) = n from by omega] at this
  rw [this, h1]

theorem fb_miss (z : Nat → Int) (c : Int) (k : Nat) (h : fb z c k = -1) (hz : ¬ z k = c) : fb z c (k + 1) = -1 := by
  rw [fb, if_neg (by omega), if_neg hz]

set_option maxHeartbeats 1000000 in
theorem first_any (a : Option Addr) (n cap : Nat) (z : Nat → Int) (c : Int) (w : World) (hr : IsRow w a n cap z) :
    Calls Try.prog 12 #[.slice a n cap, .int .u8 c] w fun e w' => e = .returned (.int .i64 (fb z c n)) ∧ w' = w := by
  obtain ⟨hnc, hcm, hnone, hcell⟩ := hr
  unfold maxLen at hcm
  by_cases h0 : n = 0
  · subst h0
    clear hcell hnone
    go_enter Try.func12, Try.ntmps12
    go_wp2
    refine wp_loop_rounds 1 ?_
    rw [rounds_succ]
    go_wp2
    go_ret
    exact ⟨rfl, rfl⟩
  · obtain ⟨x, rfl⟩ : ∃ x, a = some x := by
      cases a with
      | none => have := hnone rfl; omega
      | some x => exact ⟨x, rfl⟩
    have hcell := hcell x rfl
    obtain ⟨b, off, spot⟩ := x
    have hspot : spot = none := by
      have := World.cell?_spot (hcell 0 (by omega))
      simpa [Addr.add] using this
    subst hspot
    have HC : Hid (∀ j, j < cap → w.cell? ⟨b, off + j, none⟩ = some (.int .u8 (z j))) := fun j hj => by have := hcell j hj; rwa [add_plain] at this
    clear hcell hnone
    go_enter Try.func12, Try.ntmps12
    go_wp2
    go_loop [5] (fun i => ∃ k : Nat, k ≤ n ∧ i = .int .i64 k ∧ fb z c k = -1) (fun i => n - (intOf i).toNat)
    case atStart => exact ⟨0, Nat.zero_le _, rfl, rfl⟩
    case round =>
      obtain ⟨k, hk, rfl, hfk⟩ := hrel
      have HK : Hid (fb z c k = -1) := hfk
      clear hfk
      by_cases hlt : k < n
      · have e1 := HC.out k (by omega)
        by_cases hz : z k = c
        · have HE : Hid (fb z c n = (k : Int)) := fb_hit z c k n hlt HK.out hz
          have hb : (z k == c) = true := by simp [hz]
          clear hz
          go_wp2
          go_ret
          exact ⟨by rw [HE.out]; rfl, rfl⟩
        · have HM : Hid (fb z c (k + 1) = -1) := fb_miss z c k HK.out hz
          have hb : (z k == c) = false := by simp [hz]
          clear hz
          go_wp2
          go_round
          case rel => exact ⟨k + 1, by omega, by go_num, HM.out⟩
          case measure => simp [intOf]; omega
      · obtain rfl : k = n := by omega
        go_wp2
        go_ret
        exact ⟨by rw [HK.out]; rfl, rfl⟩

theorem clos_any (a : Option Addr) (n cap : Nat) (z : Nat → Int) (c : Int) (P : Nat) (w : World) (hr : IsRow w a n cap z) (hp : w.cell? ⟨P, 0, none⟩ = some (.int .u8 c)) :
    Calls Try.prog 11 #[.slice a n cap, .pointer (some ⟨P, 0, none⟩)] w fun e w' => e = .returned (.int .i64 (fb z c n)) ∧ w' = w := by
  have HR : Hid (IsRow w a n cap z) := hr
  clear hr
  go_enter Try.func11, Try.ntmps11
  go_wp2_with (go_at_call 12; refine (first_any _ _ _ z _ _ HR.out).mono ?_; rintro e w' ⟨rfl, hw'⟩; subst w')
  go_ret
  exact ⟨rfl, rfl⟩
end Go.Proofs.Qxb6613369a.SL
