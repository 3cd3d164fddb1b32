/-
  The numbers under which this dump holds sync.Mutex's functions and types, and that it holds them; (*channel).sent by a contract.
-/
import Derived.Test.Qxb6613968aRows
import Derived.Conc.MuLone
import Derived.WalkKit
import Derived.WalkLawsBesides
import Derived.WalkSpells
import Derived.Defers
import Derived.KernelRfl
import Derived.ProofKit
import Derived.OpenShut
import Derived.Below
namespace Go.Proofs.Qxb6613968a
abbrev Try.muLink : Go.Conc.Locks.MuLink := { lock := 35, unlock := 36, ilock := 37, iunlock := 38, lockSlow := 43, unlockSlow := 46, disable := 39, enable := 41, acquire := 42, relMerge := 44, cas32 := 40, add32 := 45, tMutex := 70, tIMutex := 68, tPMutex := 78, tPIMutex := 79, tPI32 := 81, tUP := 83, tNoCopy := 65, tU32 := 66 }
theorem Try.muLib : Go.Conc.Locks.MuLib Try.prog Try.muLink :=
  ⟨Try.func35, Try.func36, Try.func37, Try.func38, Try.func39, Try.func41, Try.func42, Try.func44, Try.func40, Try.func45, Try.underlying68, Try.runUnderlying68, Try.sizeOf68, Try.isAgg68, Try.zeroValue68, Try.underlying70, Try.runUnderlying70, Try.sizeOf70, Try.isAgg70, Try.zeroValue70, Try.underlying78, Try.runUnderlying78, Try.sizeOf78, Try.isAgg78, Try.zeroValue78, Try.underlying79, Try.runUnderlying79, Try.sizeOf79, Try.isAgg79, Try.zeroValue79, Try.underlying81, Try.runUnderlying81, Try.sizeOf81, Try.isAgg81, Try.zeroValue81, Try.underlying83, Try.runUnderlying83, Try.sizeOf83, Try.isAgg83, Try.zeroValue83, Try.underlying65, Try.runUnderlying65, Try.sizeOf65, Try.isAgg65, Try.zeroValue65, Try.underlying21, Try.runUnderlying21, Try.sizeOf21, Try.isAgg21, Try.zeroValue21, (by kernel_rfl)⟩
namespace Ch
set_option linter.unusedVariables false
open Go.ChangeShapes Go.WideShapes Go.ChangeAt Go.RowKit Go.MuLone

/-- (*channel).sent: the lock free, then the reader's count lowered, then the lock free again. -/
theorem sent_any (cb rb : Nat) (u d : Int) (w : World) (hne : cb ≠ rb)
    (h0 : w.cell? ⟨cb, 3, none⟩ = some (.int .i32 0)) (f0 : w.frozen? ⟨cb, 3, none⟩ = false)
    (h1 : w.cell? ⟨rb, 4, none⟩ = some (.int .i64 u)) (f1 : w.frozen? ⟨rb, 4, none⟩ = false) :
    Calls Try.prog 33 #[.pointer (some ⟨cb, 0, none⟩), .pointer (some ⟨rb, 0, none⟩), .int .i64 d] w fun e w' => e = .returned (.tuple #[]) ∧
      w' = ((w.setCell ⟨cb, 3, none⟩ (.int .i32 1)).setCell ⟨rb, 4, none⟩ (.int .i64 (wrap64 (u - d)))).setCell ⟨cb, 3, none⟩ (.int .i32 0) := by
  go_enter_defers Try.func33, Try.ntmps33
  go_wp2_with (go_at_call 35; refine (lock_free Try.muLib ⟨cb, 3, none⟩ _ h0 f0).mono ?_; rintro e w' ⟨rfl, rfl⟩)
  refine leaves_cons (f := 36) (args := #[.pointer (some ⟨cb, 3, none⟩)]) (by simp) (by simp [go_sem]) ?_
  refine (unlock_deferred Try.muLib ⟨cb, 3, none⟩ .returning _ ?_ ?_).mono ?_
  · exact (World.cell?_setCell_other _ ⟨rb, 4, none⟩ ⟨cb, 3, none⟩ _ (by simp)).trans (World.cell?_setCell_same w ⟨cb, 3, none⟩ (.int .i32 1) h0)
  · simp [f0]
  rintro e u' w'' ⟨rfl, rfl, rfl⟩
  exact ⟨_, results_none rfl _ _ _, rfl, rfl⟩

/-- ZZSent -/
theorem zzsent_any (cb rb : Nat) (u d : Int) (w : World) (hne : cb ≠ rb)
    (h0 : w.cell? ⟨cb, 3, none⟩ = some (.int .i32 0)) (f0 : w.frozen? ⟨cb, 3, none⟩ = false)
    (h1 : w.cell? ⟨rb, 4, none⟩ = some (.int .i64 u)) (f1 : w.frozen? ⟨rb, 4, none⟩ = false) :
    Calls Try.prog 23 #[.pointer (some ⟨cb, 0, none⟩), .pointer (some ⟨rb, 0, none⟩), .int .i64 d] w fun e w' => e = .returned (.tuple #[]) ∧
      w' = ((w.setCell ⟨cb, 3, none⟩ (.int .i32 1)).setCell ⟨rb, 4, none⟩ (.int .i64 (wrap64 (u - d)))).setCell ⟨cb, 3, none⟩ (.int .i32 0) := by
  go_enter Try.func23, Try.ntmps23
  go_wp2_with (go_at_call 33; refine (sent_any cb rb u d w hne h0 f0 h1 f1).mono ?_; rintro e w' ⟨rfl, rfl⟩)
  go_end0
  exact ⟨rfl, rfl⟩
end Ch
end Go.Proofs.Qxb6613968a
