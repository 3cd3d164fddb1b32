/-
  SearchLines, zzLastIndexOfEmpty: each by a contract.
-/
import Derived.Test.Qxb6613369aRows
import Derived.Test.Qxb6613369aPlain
import Derived.WalkKit
import Derived.WalkLawsBesides
import Derived.WalkSpells
import Derived.ProofKit
import Derived.OpenShut
import Derived.Below
import Derived.Deep.LoopGhost
namespace Go.Proofs.Qxb6613369a.SL
open Go.ChangeShapes Go.WideShapes Go.ChangeAt Go.RowKit
open Plain
set_option linter.unusedVariables false

theorem last_any (a : Option Addr) (n c : Nat) (w : World) : Calls Try.prog 9 #[.slice a n c] w fun e w' => e = .returned (.int .i64 n) ∧ w' = w := by
  go_enter Try.func9, Try.ntmps9
  go_wp2
  go_ret
  exact ⟨rfl, rfl⟩

set_option maxHeartbeats 1000000 in
/-- SearchLines with the last index of nothing, over lines that lie in memory. -/
theorem search9_any (b off n c : Nat) (A : Nat → Option Addr) (L C : Nat → Nat) (G : Nat → Int) (w : World) (hn : n ≤ 1000000)
    (hc : Hid (∀ i, i < n → w.cell? ⟨b, off + i, none⟩ = some (.slice (A i) (L i) (C i))))
    (HF : Hid (∀ i, i < n → Calls Try.prog 9 #[.slice (A i) (L i) (C i)] w fun e w' => e = .returned (.int .i64 (G i)) ∧ w' = w))
    (HB : Hid (∀ k, k ≤ n → sm G k ≤ 2000000)) :
    Calls Try.prog 8 #[.func (Fn.func 9) #[] #[], .slice (some ⟨b, off, none⟩) n c] w fun e w' => e = .returned (.tuple #[.int .i64 (cnt G n), .int .i64 (sm G n)]) ∧ w' = w := by
  go_enter Try.func8, Try.ntmps8
  go_wp2
  go_loop [4, 5, 11] (fun m s i => ∃ k : Nat, k ≤ n ∧ m = .int .i64 (cnt G k : Nat) ∧ s = .int .i64 (sm G k) ∧ i = .int .i64 k) (fun _ _ i => n - (intOf i).toNat)
  case atStart => exact ⟨0, Nat.zero_le _, rfl, rfl, rfl⟩
  case round =>
    obtain ⟨k, hk, rfl, rfl, rfl⟩ := hrel
    have h1 := cnt_le G k
    have h2 := sm_nonneg G k
    have h3 := HB.out k hk
    by_cases hlt : k < n
    · have e1 := hc.out k hlt
      have h4 := HB.out (k + 1) (by omega)
      have e2 : cnt G (k + 1) = cnt G k + if 0 ≤ G k then 1 else 0 := rfl
      have e3 : sm G (k + 1) = sm G k + if 0 ≤ G k then G k else 0 := rfl
      by_cases hg : 0 ≤ G k
      · rw [if_pos hg] at e2 e3
        have E : Hid (cnt G (k + 1) = cnt G k + 1 ∧ sm G (k + 1) = sm G k + G k) := ⟨e2, e3⟩
        have h5 : sm G k + G k ≤ 2000000 := by omega
        clear e2 e3 h4
        go_wp2_with (go_at_call 9; refine (HF.out k hlt).mono ?_; rintro e w' ⟨rfl, hw'⟩; subst w')
        go_round
        case rel => exact ⟨k + 1, by omega, by rw [E.out.1]; go_num, by rw [E.out.2], by go_num⟩
        case measure => simp [intOf]; omega
      · rw [if_neg hg] at e2 e3
        have E : Hid (cnt G (k + 1) = cnt G k ∧ sm G (k + 1) = sm G k) := ⟨e2, by rw [e3]; omega⟩
        clear e2 e3 h4
        go_wp2_with (go_at_call 9; refine (HF.out k hlt).mono ?_; rintro e w' ⟨rfl, hw'⟩; subst w')
        go_round
        case rel => exact ⟨k + 1, by omega, by rw [E.out.1], by rw [E.out.2], by go_num⟩
        case measure => simp [intOf]; omega
    · have hkn : k = n := by omega
      subst hkn
      go_wp2
      go_ret2
      exact ⟨rfl, rfl⟩

/-- SearchLines with the last index of nothing, over no line. -/
theorem search9_none (ao : Option Addr) (c : Nat) (w : World) :
    Calls Try.prog 8 #[.func (Fn.func 9) #[] #[], .slice ao 0 c] w fun e w' => e = .returned (.tuple #[.int .i64 0, .int .i64 0]) ∧ w' = w := by
  go_enter Try.func8, Try.ntmps8
  go_wp2
  refine wp_loop_rounds 1 ?_
  rw [rounds_succ]
  go_wp2
  go_ret2
  exact ⟨rfl, rfl⟩

set_option maxHeartbeats 1000000 in
/-- SearchLines with the first index of a byte, over lines that lie in memory. -/
theorem search11_any (b off n c : Nat) (A : Nat → Option Addr) (L C : Nat → Nat) (G : Nat → Int) (P : Addr) (w : World) (hn : n ≤ 1000000)
    (hc : Hid (∀ i, i < n → w.cell? ⟨b, off + i, none⟩ = some (.slice (A i) (L i) (C i))))
    (HF : Hid (∀ i, i < n → Calls Try.prog 11 #[.slice (A i) (L i) (C i), .pointer (some P)] w fun e w' => e = .returned (.int .i64 (G i)) ∧ w' = w))
    (HB : Hid (∀ k, k ≤ n → sm G k ≤ 2000000)) :
    Calls Try.prog 8 #[.func (Fn.func 11) #[] #[.pointer (some P)], .slice (some ⟨b, off, none⟩) n c] w fun e w' => e = .returned (.tuple #[.int .i64 (cnt G n), .int .i64 (sm G n)]) ∧ w' = w := by
  go_enter Try.func8, Try.ntmps8
  go_wp2
  go_loop [4, 5, 11] (fun m s i => ∃ k : Nat, k ≤ n ∧ m = .int .i64 (cnt G k : Nat) ∧ s = .int .i64 (sm G k) ∧ i = .int .i64 k) (fun _ _ i => n - (intOf i).toNat)
  case atStart => exact ⟨0, Nat.zero_le _, rfl, rfl, rfl⟩
  case round =>
    obtain ⟨k, hk, rfl, rfl, rfl⟩ := hrel
    have h1 := cnt_le G k
    have h2 := sm_nonneg G k
    have h3 := HB.out k hk
    by_cases hlt : k < n
    · have e1 := hc.out k hlt
      have h4 := HB.out (k + 1) (by omega)
      have e2 : cnt G (k + 1) = cnt G k + if 0 ≤ G k then 1 else 0 := rfl
      have e3 : sm G (k + 1) = sm G k + if 0 ≤ G k then G k else 0 := rfl
      by_cases hg : 0 ≤ G k
      · rw [if_pos hg] at e2 e3
        have E : Hid (cnt G (k + 1) = cnt G k + 1 ∧ sm G (k + 1) = sm G k + G k) := ⟨e2, e3⟩
        have h5 : sm G k + G k ≤ 2000000 := by omega
        clear e2 e3 h4
        go_wp2_with (go_at_call 11; refine (HF.out k hlt).mono ?_; rintro e w' ⟨rfl, hw'⟩; subst w')
        go_round
        case rel => exact ⟨k + 1, by omega, by rw [E.out.1]; go_num, by rw [E.out.2], by go_num⟩
        case measure => simp [intOf]; omega
      · rw [if_neg hg] at e2 e3
        have E : Hid (cnt G (k + 1) = cnt G k ∧ sm G (k + 1) = sm G k) := ⟨e2, by rw [e3]; omega⟩
        clear e2 e3 h4
        go_wp2_with (go_at_call 11; refine (HF.out k hlt).mono ?_; rintro e w' ⟨rfl, hw'⟩; subst w')
        go_round
        case rel => exact ⟨k + 1, by omega, by rw [E.out.1], by rw [E.out.2], by go_num⟩
        case measure => simp [intOf]; omega
    · have hkn : k = n := by omega
      subst hkn
      go_wp2
      go_ret2
      exact ⟨rfl, rfl⟩

/-- SearchLines with the first index of a byte, over no line. -/
theorem search11_none (ao : Option Addr) (c : Nat) (P : Addr) (w : World) :
    Calls Try.prog 8 #[.func (Fn.func 11) #[] #[.pointer (some P)], .slice ao 0 c] w fun e w' => e = .returned (.tuple #[.int .i64 0, .int .i64 0]) ∧ w' = w := by
  go_enter Try.func8, Try.ntmps8
  go_wp2
  refine wp_loop_rounds 1 ?_
  rw [rounds_succ]
  go_wp2
  go_ret2
  exact ⟨rfl, rfl⟩

end Go.Proofs.Qxb6613369a.SL
