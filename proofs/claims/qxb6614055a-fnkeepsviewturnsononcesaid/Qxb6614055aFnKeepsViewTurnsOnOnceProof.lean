/-
  THE SHELL OF A PROOF OF 'Rows.FnKeepsViewTurnsOnOnceSaid' ('example.com/stillframe/stillframe/zzlaws_internal_engine_b1.FnKeepsViewTurnsOnOnce'), WRITTEN BY PROGRAM (proof-skeleton.mjs) off the guide's own print for that function. Not trusted: Lean checks it.
  THE HOLE IS FILLED. ALL ELSE IS THE GUIDE's TEMPLATE (howto/template/XProofs.lean) at this function's number and types: leave it.
-/
import Derived.Test.Qxb6614055aRows
import Derived.WalkKit
import Derived.ProofKit
import Derived.OpenShut
import Derived.ShutString
namespace Go.Proofs.Qxb6614055a.fnKeepsViewTurnsOnOnce
open Go.ChangeShapes Go.WideShapes Go.ChangeAt Go.RowKit
open Go.ChangeMaps (open_string shut_string)
set_option linter.unusedVariables false      -- a walk need not use every 'w<i>' (that an integer argument fits its kind)

theorem own : ownKnob Try.prog.godebug = none := by kernel_rfl

/-- ZZkeepsView: the level is at least 2 (RepeatableRead). -/
theorem keeps_any (l : Int) (w : World) : Calls Try.prog 20 #[.int .i64 l] w fun e w' => e = .returned (.bool (decide (2 ≤ l))) ∧ w' = w := by
  go_enter Try.func20, Try.ntmps20
  go_wp2
  go_ret
  exact ⟨rfl, rfl⟩

theorem far (x : Int) (h0 : 9223372036854775807 < x) (h1 : x < 18446744073709551616) : wrap64 x < 0 := by
  unfold wrap64; omega

/-- The smaller first, the span too wide for an int. -/
theorem up_wide (lo hi : Int) (w0 : (Lit.int .i64 lo).wf = true) (w1 : (Lit.int .i64 hi).wf = true) (h : lo ≤ hi) (hw : 9223372036854775807 < hi - lo) (w : World) :
    Calls Try.prog 6 #[.int .i64 lo, .int .i64 hi] w fun e w' => e = .returned (.bool true) ∧ w' = w := by
  have b0 := bounds_i64 w0
  have b1 := bounds_i64 w1
  have hd : wrap64 (hi - lo) < 0 := far _ hw (by omega)
  clear w0 w1
  go_enter Try.func6, Try.ntmps6
  go_wp2
  go_ret
  exact ⟨rfl, rfl⟩

/-- The smaller first, the span of more than 65536 steps. -/
theorem up_long (lo hi : Int) (w0 : (Lit.int .i64 lo).wf = true) (w1 : (Lit.int .i64 hi).wf = true) (h : lo ≤ hi) (hw : hi - lo ≤ 9223372036854775807) (hs : 65536 < hi - lo) (w : World) :
    Calls Try.prog 6 #[.int .i64 lo, .int .i64 hi] w fun e w' => e = .returned (.bool true) ∧ w' = w := by
  have b0 := bounds_i64 w0
  have b1 := bounds_i64 w1
  clear w0 w1
  go_enter Try.func6, Try.ntmps6
  go_wp2
  go_ret
  exact ⟨rfl, rfl⟩

set_option maxHeartbeats 1000000 in
/-- The smaller first, the span walked. -/
theorem up_walk (lo hi : Int) (w0 : (Lit.int .i64 lo).wf = true) (w1 : (Lit.int .i64 hi).wf = true) (h : lo ≤ hi) (hs : hi - lo ≤ 65536) (w : World) :
    Calls Try.prog 6 #[.int .i64 lo, .int .i64 hi] w fun e w' => e = .returned (.bool true) ∧ w' = w := by
  have b0 := bounds_i64 w0
  have b1 := bounds_i64 w1
  clear w0 w1
  go_enter Try.func6, Try.ntmps6
  go_wp2
  go_loop [9, 10, 11] (fun s t j => ∃ k : Int, 1 ≤ k ∧ k ≤ hi - lo + 1 ∧ j = .int .i64 k ∧ ((lo < 2 ∧ 3 ≤ lo + k ∧ s = .int .i64 1 ∧ t = .int .i64 2) ∨ ((2 ≤ lo ∨ lo + k < 3) ∧ s = .int .i64 0 ∧ t = .int .i64 0)))
    (fun _ _ j => (hi - lo + 1 - intOf j).toNat)
  case atStart => exact ⟨1, by omega, by omega, rfl, Or.inr ⟨by omega, rfl, rfl⟩⟩
  case round =>
    obtain ⟨k, hk1, hk2, rfl, hst⟩ := hrel
    by_cases hlt : k ≤ hi - lo
    · rcases hst with ⟨h1, h2, rfl, rfl⟩ | ⟨h1, rfl, rfl⟩
      · have g1 : 2 ≤ lo + k - 1 := by omega
        have g2 : 2 ≤ lo + k := by omega
        go_wp2
        go_round
        case rel => exact ⟨k + 1, by omega, by omega, rfl, Or.inl ⟨h1, by omega, rfl, rfl⟩⟩
        case measure => simp [intOf]; omega
      · by_cases g : lo + k = 2
        · have g1 : decide (2 ≤ lo + k - 1) = false := by simp; omega
          have g2 : 2 ≤ lo + k := by omega
          have g0 : lo < 2 := by omega
          have G : Hid (lo + k = 2) := g
          clear g
          go_wp2
          go_round
          case rel => exact ⟨k + 1, by omega, by omega, rfl, Or.inl ⟨g0, by omega, rfl, by rw [G.out]⟩⟩
          case measure => simp [intOf]; omega
        · have g3 : (2 ≤ lo + k - 1 ∧ 2 ≤ lo + k) ∨ (decide (2 ≤ lo + k - 1) = false ∧ decide (2 ≤ lo + k) = false) := by simp; omega
          rcases g3 with ⟨g3, g4⟩ | ⟨g3, g4⟩
          all_goals
            go_wp2
            go_round
            case rel => exact ⟨k + 1, by omega, by omega, rfl, Or.inr ⟨by omega, rfl, rfl⟩⟩
            case measure => simp [intOf]; omega
    · rcases hst with ⟨h1, h2, rfl, rfl⟩ | ⟨h1, rfl, rfl⟩
      · have g1 : 2 ≤ hi := by omega
        have g0 : decide (2 ≤ lo) = false := by simp; omega
        go_wp2
        go_ret
        exact ⟨rfl, rfl⟩
      · have g1 : (2 ≤ lo ∧ 2 ≤ hi ∧ True) ∨ (decide (2 ≤ lo) = false ∧ decide (2 ≤ hi) = false ∧ hi < 2) := by simp; omega
        rcases g1 with ⟨g1, g2, g3⟩ | ⟨g1, g2, g3⟩
        all_goals
          go_wp2
          go_ret
          exact ⟨rfl, rfl⟩

/-- The greater first, the span too wide for an int. -/
theorem down_wide (lo hi : Int) (w0 : (Lit.int .i64 lo).wf = true) (w1 : (Lit.int .i64 hi).wf = true) (h : lo < hi) (hw : 9223372036854775807 < hi - lo) (w : World) :
    Calls Try.prog 6 #[.int .i64 hi, .int .i64 lo] w fun e w' => e = .returned (.bool true) ∧ w' = w := by
  have b0 := bounds_i64 w0
  have b1 := bounds_i64 w1
  have hd : wrap64 (hi - lo) < 0 := far _ hw (by omega)
  clear w0 w1
  go_enter Try.func6, Try.ntmps6
  go_wp2
  go_ret
  exact ⟨rfl, rfl⟩

/-- The greater first, the span of more than 65536 steps. -/
theorem down_long (lo hi : Int) (w0 : (Lit.int .i64 lo).wf = true) (w1 : (Lit.int .i64 hi).wf = true) (h : lo < hi) (hw : hi - lo ≤ 9223372036854775807) (hs : 65536 < hi - lo) (w : World) :
    Calls Try.prog 6 #[.int .i64 hi, .int .i64 lo] w fun e w' => e = .returned (.bool true) ∧ w' = w := by
  have b0 := bounds_i64 w0
  have b1 := bounds_i64 w1
  clear w0 w1
  go_enter Try.func6, Try.ntmps6
  go_wp2
  go_ret
  exact ⟨rfl, rfl⟩

set_option maxHeartbeats 1000000 in
/-- The greater first, the span walked. -/
theorem down_walk (lo hi : Int) (w0 : (Lit.int .i64 lo).wf = true) (w1 : (Lit.int .i64 hi).wf = true) (h : lo < hi) (hs : hi - lo ≤ 65536) (w : World) :
    Calls Try.prog 6 #[.int .i64 hi, .int .i64 lo] w fun e w' => e = .returned (.bool true) ∧ w' = w := by
  have b0 := bounds_i64 w0
  have b1 := bounds_i64 w1
  clear w0 w1
  go_enter Try.func6, Try.ntmps6
  go_wp2
  go_loop [9, 10, 11] (fun s t j => ∃ k : Int, 1 ≤ k ∧ k ≤ hi - lo + 1 ∧ j = .int .i64 k ∧ ((lo < 2 ∧ 3 ≤ lo + k ∧ s = .int .i64 1 ∧ t = .int .i64 2) ∨ ((2 ≤ lo ∨ lo + k < 3) ∧ s = .int .i64 0 ∧ t = .int .i64 0)))
    (fun _ _ j => (hi - lo + 1 - intOf j).toNat)
  case atStart => exact ⟨1, by omega, by omega, rfl, Or.inr ⟨by omega, rfl, rfl⟩⟩
  case round =>
    obtain ⟨k, hk1, hk2, rfl, hst⟩ := hrel
    by_cases hlt : k ≤ hi - lo
    · rcases hst with ⟨h1, h2, rfl, rfl⟩ | ⟨h1, rfl, rfl⟩
      · have g1 : 2 ≤ lo + k - 1 := by omega
        have g2 : 2 ≤ lo + k := by omega
        go_wp2
        go_round
        case rel => exact ⟨k + 1, by omega, by omega, rfl, Or.inl ⟨h1, by omega, rfl, rfl⟩⟩
        case measure => simp [intOf]; omega
      · by_cases g : lo + k = 2
        · have g1 : decide (2 ≤ lo + k - 1) = false := by simp; omega
          have g2 : 2 ≤ lo + k := by omega
          have g0 : lo < 2 := by omega
          have G : Hid (lo + k = 2) := g
          clear g
          go_wp2
          go_round
          case rel => exact ⟨k + 1, by omega, by omega, rfl, Or.inl ⟨g0, by omega, rfl, by rw [G.out]⟩⟩
          case measure => simp [intOf]; omega
        · have g3 : (2 ≤ lo + k - 1 ∧ 2 ≤ lo + k) ∨ (decide (2 ≤ lo + k - 1) = false ∧ decide (2 ≤ lo + k) = false) := by simp; omega
          rcases g3 with ⟨g3, g4⟩ | ⟨g3, g4⟩
          all_goals
            go_wp2
            go_round
            case rel => exact ⟨k + 1, by omega, by omega, rfl, Or.inr ⟨by omega, rfl, rfl⟩⟩
            case measure => simp [intOf]; omega
    · rcases hst with ⟨h1, h2, rfl, rfl⟩ | ⟨h1, rfl, rfl⟩
      · have g1 : 2 ≤ hi := by omega
        have g0 : decide (2 ≤ lo) = false := by simp; omega
        go_wp2
        go_ret
        exact ⟨rfl, rfl⟩
      · have g1 : (2 ≤ lo ∧ 2 ≤ hi ∧ True) ∨ (decide (2 ≤ lo) = false ∧ decide (2 ≤ hi) = false ∧ hi < 2) := by simp; omega
        rcases g1 with ⟨g1, g2, g3⟩ | ⟨g1, g2, g3⟩
        all_goals
          go_wp2
          go_ret
          exact ⟨rfl, rfl⟩

/-! ### STEP 1: THE WALK: the Go text returns true. 'Grown w w'': the world has at most new blocks (Derived/RowKit3.lean). Part the cases AHEAD of 'go_enter' where a test parts the walk; take each callee by a contract of your own. -/
theorem walk (a0 : Int) (a1 : Int) (w0 : (Lit.int .i64 a0).wf = true) (w1 : (Lit.int .i64 a1).wf = true) (w : World) :
    Calls Try.prog 6 #[.int .i64 a0, .int .i64 a1] w fun e w' => e = .returned (.bool true) ∧ Grown w w' := by
  by_cases h : a0 ≤ a1
  · by_cases hw : 9223372036854775807 < a1 - a0
    · exact (up_wide a0 a1 w0 w1 h hw w).mono fun e w' ⟨he, hw'⟩ => ⟨he, hw' ▸ Grown.refl _⟩
    · by_cases hs : 65536 < a1 - a0
      · exact (up_long a0 a1 w0 w1 h (by omega) hs w).mono fun e w' ⟨he, hw'⟩ => ⟨he, hw' ▸ Grown.refl _⟩
      · exact (up_walk a0 a1 w0 w1 h (by omega) w).mono fun e w' ⟨he, hw'⟩ => ⟨he, hw' ▸ Grown.refl _⟩
  · by_cases hw : 9223372036854775807 < a0 - a1
    · exact (down_wide a1 a0 w1 w0 (by omega) hw w).mono fun e w' ⟨he, hw'⟩ => ⟨he, hw' ▸ Grown.refl _⟩
    · by_cases hs : 65536 < a0 - a1
      · exact (down_long a1 a0 w1 w0 (by omega) (by omega) hs w).mono fun e w' ⟨he, hw'⟩ => ⟨he, hw' ▸ Grown.refl _⟩
      · exact (down_walk a1 a0 w1 w0 (by omega) (by omega) w).mono fun e w' ⟨he, hw'⟩ => ⟨he, hw' ▸ Grown.refl _⟩

/-! ### THE ROW's STEP: WRITTEN OUT: LEAVE IT -/
set_option maxRecDepth 100000 in
theorem lifted (os : Os) (started : os.Started) (H : Type) (enc : TypeId × Value → H) :
    ReturnsInHanded {} Try.checked os 6 .any (Rows.fnKeepsViewTurnsOnOnceSpec.pre6 enc Try.prog Try.f6 Rows.fnKeepsViewTurnsOnOnceRow.domain false) (Rows.fnKeepsViewTurnsOnOnceSpec.post enc Try.prog Try.f6 false true false false) := by
  refine returnsInHanded_of_change (C := Try.checked) own started (by kernel_rfl) Try.func6
    (ChangeSpec.witness6 (enc := enc) (C := Try.checked) false ⟨#[], #[.int .i64 0, .int .i64 0], []⟩ 8 (by kernel_rfl) (by kernel_rfl) (by kernel_rfl) (by kernel_rfl)) ?_
  intro W base args ds gs before hval0 hW hcnd _
  have hval : ∀ (j : Nat) t v, Try.f6.params[j]? = some t → args[j]? = some v → Value.okWide Try.prog W .any base t v := hval0
  have hW' := hW
  obtain ⟨p, q, hA0, hV, rfl, hfz, hnd⟩ := hW
  have hA : DataW.TrodAll enc Try.prog W 0 (fun _ => true) true Try.f6.params.toList args.toList ds p := hA0
  rw [Try.params6] at hA hval
  obtain ⟨v0, vs0, d0, ds0, p0, q0, hargs, rfl, rfl, h0, r0⟩ := trodAll_cons hA
  obtain ⟨v1, vs1, d1, ds1, p1, q1, rfl, rfl, rfl, h1, r1⟩ := trodAll_cons r0
  obtain ⟨rfl, rfl, rfl⟩ := trodAll_nil r1
  obtain rfl : args = #[v0, v1] := by cases args; simp_all
  obtain ⟨rfl, rfl⟩ := trodVars_none hV
  obtain ⟨a0, rfl, rfl, rfl, w0⟩ := open_int Try.underlying3 (hval 0 3 v0 rfl rfl) h0
  obtain ⟨a1, rfl, rfl, rfl, w1⟩ := open_int Try.underlying3 (hval 1 3 v1 rfl rfl) h1
  clear hA0 hval0
  simp only [List.append_nil] at hW'
  refine (walk a0 a1 w0 w1 W).mono fun e W' ⟨he, hg⟩ => ?_
  subst he
  exact ⟨_, rfl, post_of_same (pa := []) (pv := []) hW' (fun _ _ _ => (trodAll_cons_mk (shut_bool Try.underlying4 _) trodAll_mk0)) (fun sp _ => (trodAll_cons_mk (shut_int Try.underlying3 w0) (trodAll_cons_mk (shut_int Try.underlying3 w1) trodAll_mk0))) (fun _ _ => rfl) rfl
    (hg.frame _) hg.2.1 (ok_one (by kernel_rfl) rfl (okWide_bool_mk Try.underlying4 _))⟩

theorem over : Rows.fnKeepsViewTurnsOnOnceRow.holds Try.pinned (OpenSpec.ofChange Rows.fnKeepsViewTurnsOnOnceSpec) :=
  OpenClaim.holds_of_wide 6 Try.f6 rfl rfl rfl rfl rfl rfl rfl ⟨rfl, rfl, rfl, rfl, rfl⟩ rfl rfl rfl rfl rfl (by kernel_rfl) Try.func6 (by kernel_rfl)
    (of_decide_eq_true (by kernel_rfl)) (by unfold Func.isWrapper; first | (rw [if_pos (by decide +kernel)]; kernel_rfl) | (rw [if_neg (by decide +kernel)]; exact ⟨rfl, rfl⟩))
    (fun os started H enc _ => lifted os started H enc)

/-- ████ THE STATEMENT ████ -/
theorem proved : Rows.FnKeepsViewTurnsOnOnceSaid :=
  over
end Go.Proofs.Qxb6614055a.fnKeepsViewTurnsOnOnce

namespace Go.Proofs.Qxb6614055a
/-- The given statement, by its short name. -/
theorem fnKeepsViewTurnsOnOnce_proved : Rows.FnKeepsViewTurnsOnOnceSaid :=
  fnKeepsViewTurnsOnOnce.proved
end Go.Proofs.Qxb6614055a
