/-
  No cell of these rows narrows 'for every input' (looked for: loops, veiled, ifaces, maps, wideKeys, modest, calm, conditions, laid).
  DERIVED. THE GIVEN ROWS OF THIS SEAT. 4 by the template 'for every input the law returns true; each argument reads behind the call as it read before'; 0 by the template 'total and deterministic' (their statements: Qxb6613369aTotals.lean).
  GIVEN WITH THE SEED: the statements are not yours to turn. If you find one false, say at which input.
  Laid BY PROGRAM, IN A SANDBOX (cutbox-rows.mjs): the forced cells as the released guide's own fill.sh prints them over the translation eea7573a50eb2bbe… (all of the seat's roots in one cut). By AI agents, Wed Nov 11 2026. No macro, syntax, notation, axiom, sorry.
-/
import Derived.Test.Qxb6613369aChecked
import GoSem.Claim
import GoSem.ClaimJoined
import GoSem.ClaimMapViews
import Derived.JoinedTies
import Derived.KernelRfl
namespace Go.Proofs.Qxb6613369a
/- THE CELL 'sum', in the pinned program and in every row, IS THE sha256 OF THE DUMP (.gsa) THAT Qxb6613369aProg.lean LOADS. Nothing in Lean hashes anything: it is a label: what it is worth is what the hold of that sum in a sandbox is worth. -/
noncomputable def Try.pinned : Pinned := { name := "qxb6613369a", sum := "eea7573a50eb2bbe9ab3d3aeede119ed693df6018ae448b8e04cfd538554b8b8", checked := Try.checked }
namespace Rows
def none {H : Type} : Left H := { results := [], args := [] }

/-- 'zzlaws_internal_workload_b1.FnSearchLinesCutAddsUp': WHATEVER THE INPUT: true; the input reads as it did. -/
def fnSearchLinesCutAddsUpSpec : ChangeSpec := { name := "fnSearchLinesCutAddsUp", fn := fun _ => fun
  | [d1, d2] => { results := [.lit (.bool true)], args := [d1, d2] }
  | _ => none }
def fnSearchLinesCutAddsUpRow : OpenClaim := { program := "qxb6613369a", sum := "eea7573a50eb2bbe9ab3d3aeede119ed693df6018ae448b8e04cfd538554b8b8", func := "example.com/casloc/casloc/zzlaws_internal_workload_b1.FnSearchLinesCutAddsUp", spec := "fnSearchLinesCutAddsUp", unfollowed := true, recurses := true, apart := false }
def FnSearchLinesCutAddsUpSaid : Prop := fnSearchLinesCutAddsUpRow.holds Try.pinned (OpenSpec.ofChange fnSearchLinesCutAddsUpSpec)

/-- ITS FALSE NEIGHBOUR: 'it returns false'. Refute it at one input. -/
def fnSearchLinesCutAddsUpWrong : ChangeSpec := { name := "fnSearchLinesCutAddsUp", fn := fun _ => fun
  | [d1, d2] => { results := [.lit (.bool false)], args := [d1, d2] }
  | _ => none }
def FnSearchLinesCutAddsUpWrongFalsely : Prop := fnSearchLinesCutAddsUpRow.holds Try.pinned (OpenSpec.ofChange fnSearchLinesCutAddsUpWrong)

/-- 'zzlaws_internal_workload_b1.FnSearchLinesInsertedLineAddsItsFirstIndex': WHATEVER THE INPUT: true; the input reads as it did. -/
def fnSearchLinesInsertedLineAddsItsFirstIndexSpec : ChangeSpec := { name := "fnSearchLinesInsertedLineAddsItsFirstIndex", fn := fun _ => fun
  | [d1, d2, d3, d4] => { results := [.lit (.bool true)], args := [d1, d2, d3, d4] }
  | _ => none }
def fnSearchLinesInsertedLineAddsItsFirstIndexRow : OpenClaim := { program := "qxb6613369a", sum := "eea7573a50eb2bbe9ab3d3aeede119ed693df6018ae448b8e04cfd538554b8b8", func := "example.com/casloc/casloc/zzlaws_internal_workload_b1.FnSearchLinesInsertedLineAddsItsFirstIndex", spec := "fnSearchLinesInsertedLineAddsItsFirstIndex", unfollowed := true, recurses := true, apart := false }
def FnSearchLinesInsertedLineAddsItsFirstIndexSaid : Prop := fnSearchLinesInsertedLineAddsItsFirstIndexRow.holds Try.pinned (OpenSpec.ofChange fnSearchLinesInsertedLineAddsItsFirstIndexSpec)

/-- ITS FALSE NEIGHBOUR: 'it returns false'. Refute it at one input. -/
def fnSearchLinesInsertedLineAddsItsFirstIndexWrong : ChangeSpec := { name := "fnSearchLinesInsertedLineAddsItsFirstIndex", fn := fun _ => fun
  | [d1, d2, d3, d4] => { results := [.lit (.bool false)], args := [d1, d2, d3, d4] }
  | _ => none }
def FnSearchLinesInsertedLineAddsItsFirstIndexWrongFalsely : Prop := fnSearchLinesInsertedLineAddsItsFirstIndexRow.holds Try.pinned (OpenSpec.ofChange fnSearchLinesInsertedLineAddsItsFirstIndexWrong)

/-- 'zzlaws_internal_workload_b1.FnAsJoinsAtAnyCut': WHATEVER THE INPUT: true; the input reads as it did. -/
def fnAsJoinsAtAnyCutSpec : ChangeSpec := { name := "fnAsJoinsAtAnyCut", fn := fun _ => fun
  | [d1, d2] => { results := [.lit (.bool true)], args := [d1, d2] }
  | _ => none }
def fnAsJoinsAtAnyCutRow : OpenClaim := { program := "qxb6613369a", sum := "eea7573a50eb2bbe9ab3d3aeede119ed693df6018ae448b8e04cfd538554b8b8", func := "example.com/casloc/casloc/zzlaws_internal_workload_b1.FnAsJoinsAtAnyCut", spec := "fnAsJoinsAtAnyCut", inPlace := ["internal/bytealg.MakeNoZero"], apart := false }
def FnAsJoinsAtAnyCutSaid : Prop := fnAsJoinsAtAnyCutRow.holds Try.pinned (OpenSpec.ofChange fnAsJoinsAtAnyCutSpec)

/-- ITS FALSE NEIGHBOUR: 'it returns false'. Refute it at one input. -/
def fnAsJoinsAtAnyCutWrong : ChangeSpec := { name := "fnAsJoinsAtAnyCut", fn := fun _ => fun
  | [d1, d2] => { results := [.lit (.bool false)], args := [d1, d2] }
  | _ => none }
def FnAsJoinsAtAnyCutWrongFalsely : Prop := fnAsJoinsAtAnyCutRow.holds Try.pinned (OpenSpec.ofChange fnAsJoinsAtAnyCutWrong)

/-- 'zzlaws_internal_workload_b1.FnAsIsFresh': WHATEVER THE INPUT: true; the input reads as it did. -/
def fnAsIsFreshSpec : ChangeSpec := { name := "fnAsIsFresh", fn := fun _ => fun
  | [d1, d2, d3] => { results := [.lit (.bool true)], args := [d1, d2, d3] }
  | _ => none }
def fnAsIsFreshRow : OpenClaim := { program := "qxb6613369a", sum := "eea7573a50eb2bbe9ab3d3aeede119ed693df6018ae448b8e04cfd538554b8b8", func := "example.com/casloc/casloc/zzlaws_internal_workload_b1.FnAsIsFresh", spec := "fnAsIsFresh", inPlace := ["internal/bytealg.MakeNoZero"], apart := false }
def FnAsIsFreshSaid : Prop := fnAsIsFreshRow.holds Try.pinned (OpenSpec.ofChange fnAsIsFreshSpec)

/-- ITS FALSE NEIGHBOUR: 'it returns false'. Refute it at one input. -/
def fnAsIsFreshWrong : ChangeSpec := { name := "fnAsIsFresh", fn := fun _ => fun
  | [d1, d2, d3] => { results := [.lit (.bool false)], args := [d1, d2, d3] }
  | _ => none }
def FnAsIsFreshWrongFalsely : Prop := fnAsIsFreshRow.holds Try.pinned (OpenSpec.ofChange fnAsIsFreshWrong)

end Rows
end Go.Proofs.Qxb6613369a
