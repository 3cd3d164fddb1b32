/-
  No cell of these rows narrows 'for every input' (looked for: loops, veiled, ifaces, maps, wideKeys, modest, calm, conditions, laid).
  DERIVED. THE GIVEN ROWS OF THIS SEAT. 3 by the template 'for every input the law returns true; each argument reads behind the call as it read before'; 0 by the template 'total and deterministic' (their statements: Qxb6613968aTotals.lean).
  GIVEN WITH THE SEED: the statements are not yours to turn. If you find one false, say at which input.
  Laid BY PROGRAM, IN A SANDBOX (cutbox-rows.mjs): the forced cells as the released guide's own fill.sh prints them over the translation 1c29bf1d7196723a… (all of the seat's roots in one cut). By AI agents, Wed Nov 11 2026. No macro, syntax, notation, axiom, sorry.
-/
import Derived.Test.Qxb6613968aChecked
import GoSem.Claim
import GoSem.ClaimJoined
import GoSem.ClaimMapViews
import Derived.JoinedTies
import Derived.KernelRfl
namespace Go.Proofs.Qxb6613968a
/- THE CELL 'sum', in the pinned program and in every row, IS THE sha256 OF THE DUMP (.gsa) THAT Qxb6613968aProg.lean LOADS. Nothing in Lean hashes anything: it is a label: what it is worth is what the hold of that sum in a sandbox is worth. -/
noncomputable def Try.pinned : Pinned := { name := "qxb6613968a", sum := "1c29bf1d7196723aad735f6a80cfa2d266850e8c752d9c0c6a782f0d0020cf3c", checked := Try.checked }
namespace Rows
def none {H : Type} : Left H := { results := [], args := [] }

/-- 'zzlaws_root_b1.FnQueueTakesAllOrCutsAtFirstOverflow': WHATEVER THE INPUT: true; the input reads as it did. -/
def fnQueueTakesAllOrCutsAtFirstOverflowSpec : ChangeSpec := { name := "fnQueueTakesAllOrCutsAtFirstOverflow", fn := fun _ => fun
  | [d1, d2, d3, d4, d5, d6, d7, d8, d9, d10, d11, d12] => { results := [.lit (.bool true)], args := [d1, d2, d3, d4, d5, d6, d7, d8, d9, d10, d11, d12] }
  | _ => none }
def fnQueueTakesAllOrCutsAtFirstOverflowRow : OpenClaim := { program := "qxb6613968a", sum := "1c29bf1d7196723aad735f6a80cfa2d266850e8c752d9c0c6a782f0d0020cf3c", func := "example.com/gaugewire/gaugewire/zzlaws_root_b1.FnQueueTakesAllOrCutsAtFirstOverflow", spec := "fnQueueTakesAllOrCutsAtFirstOverflow", apart := false }
def FnQueueTakesAllOrCutsAtFirstOverflowSaid : Prop := fnQueueTakesAllOrCutsAtFirstOverflowRow.holds Try.pinned (OpenSpec.ofChange fnQueueTakesAllOrCutsAtFirstOverflowSpec)

/-- ITS FALSE NEIGHBOUR: 'it returns false'. Refute it at one input. -/
def fnQueueTakesAllOrCutsAtFirstOverflowWrong : ChangeSpec := { name := "fnQueueTakesAllOrCutsAtFirstOverflow", fn := fun _ => fun
  | [d1, d2, d3, d4, d5, d6, d7, d8, d9, d10, d11, d12] => { results := [.lit (.bool false)], args := [d1, d2, d3, d4, d5, d6, d7, d8, d9, d10, d11, d12] }
  | _ => none }
def FnQueueTakesAllOrCutsAtFirstOverflowWrongFalsely : Prop := fnQueueTakesAllOrCutsAtFirstOverflowRow.holds Try.pinned (OpenSpec.ofChange fnQueueTakesAllOrCutsAtFirstOverflowWrong)

/-- 'zzlaws_root_b1.FnQueueThenSentRestoresUnsent': WHATEVER THE INPUT: true; the input reads as it did. -/
def fnQueueThenSentRestoresUnsentSpec : ChangeSpec := { name := "fnQueueThenSentRestoresUnsent", fn := fun _ => fun
  | [d1, d2, d3, d4, d5, d6, d7, d8, d9, d10, d11] => { results := [.lit (.bool true)], args := [d1, d2, d3, d4, d5, d6, d7, d8, d9, d10, d11] }
  | _ => none }
def fnQueueThenSentRestoresUnsentRow : OpenClaim := { program := "qxb6613968a", sum := "1c29bf1d7196723aad735f6a80cfa2d266850e8c752d9c0c6a782f0d0020cf3c", func := "example.com/gaugewire/gaugewire/zzlaws_root_b1.FnQueueThenSentRestoresUnsent", spec := "fnQueueThenSentRestoresUnsent", inPlace := ["(*internal/sync.Mutex).Lock", "internal/race.Disable", "sync/atomic.CompareAndSwapInt32", "internal/race.Enable", "internal/race.Acquire", "(*internal/sync.Mutex).lockSlow", "internal/sync.runtime_canSpin", "internal/sync.runtime_doSpin", "internal/sync.throw", "internal/sync.runtime_nanotime", "internal/sync.runtime_SemacquireMutex", "sync/atomic.AddInt32", "(*internal/sync.Mutex).Unlock", "internal/race.ReleaseMerge", "(*internal/sync.Mutex).unlockSlow", "internal/sync.fatal", "internal/sync.runtime_Semrelease"], apart := false }
def FnQueueThenSentRestoresUnsentSaid : Prop := fnQueueThenSentRestoresUnsentRow.holds Try.pinned (OpenSpec.ofChange fnQueueThenSentRestoresUnsentSpec)

/-- ITS FALSE NEIGHBOUR: 'it returns false'. Refute it at one input. -/
def fnQueueThenSentRestoresUnsentWrong : ChangeSpec := { name := "fnQueueThenSentRestoresUnsent", fn := fun _ => fun
  | [d1, d2, d3, d4, d5, d6, d7, d8, d9, d10, d11] => { results := [.lit (.bool false)], args := [d1, d2, d3, d4, d5, d6, d7, d8, d9, d10, d11] }
  | _ => none }
def FnQueueThenSentRestoresUnsentWrongFalsely : Prop := fnQueueThenSentRestoresUnsentRow.holds Try.pinned (OpenSpec.ofChange fnQueueThenSentRestoresUnsentWrong)

/-- 'zzlaws_root_b1.FnSentTwiceIsSentOfTheSum': WHATEVER THE INPUT: true; the input reads as it did. -/
def fnSentTwiceIsSentOfTheSumSpec : ChangeSpec := { name := "fnSentTwiceIsSentOfTheSum", fn := fun _ => fun
  | [d1, d2, d3, d4, d5, d6, d7, d8, d9, d10, d11] => { results := [.lit (.bool true)], args := [d1, d2, d3, d4, d5, d6, d7, d8, d9, d10, d11] }
  | _ => none }
def fnSentTwiceIsSentOfTheSumRow : OpenClaim := { program := "qxb6613968a", sum := "1c29bf1d7196723aad735f6a80cfa2d266850e8c752d9c0c6a782f0d0020cf3c", func := "example.com/gaugewire/gaugewire/zzlaws_root_b1.FnSentTwiceIsSentOfTheSum", spec := "fnSentTwiceIsSentOfTheSum", inPlace := ["(*internal/sync.Mutex).Lock", "internal/race.Disable", "sync/atomic.CompareAndSwapInt32", "internal/race.Enable", "internal/race.Acquire", "(*internal/sync.Mutex).lockSlow", "internal/sync.runtime_canSpin", "internal/sync.runtime_doSpin", "internal/sync.throw", "internal/sync.runtime_nanotime", "internal/sync.runtime_SemacquireMutex", "sync/atomic.AddInt32", "(*internal/sync.Mutex).Unlock", "internal/race.ReleaseMerge", "(*internal/sync.Mutex).unlockSlow", "internal/sync.fatal", "internal/sync.runtime_Semrelease"], apart := false }
def FnSentTwiceIsSentOfTheSumSaid : Prop := fnSentTwiceIsSentOfTheSumRow.holds Try.pinned (OpenSpec.ofChange fnSentTwiceIsSentOfTheSumSpec)

/-- ITS FALSE NEIGHBOUR: 'it returns false'. Refute it at one input. -/
def fnSentTwiceIsSentOfTheSumWrong : ChangeSpec := { name := "fnSentTwiceIsSentOfTheSum", fn := fun _ => fun
  | [d1, d2, d3, d4, d5, d6, d7, d8, d9, d10, d11] => { results := [.lit (.bool false)], args := [d1, d2, d3, d4, d5, d6, d7, d8, d9, d10, d11] }
  | _ => none }
def FnSentTwiceIsSentOfTheSumWrongFalsely : Prop := fnSentTwiceIsSentOfTheSumRow.holds Try.pinned (OpenSpec.ofChange fnSentTwiceIsSentOfTheSumWrong)

end Rows
end Go.Proofs.Qxb6613968a
