/-
  THE SHELL OF A PROOF OF 'Rows.FnAtSymbolOnlyItsOwnTokensTextSaid' ('example.com/stillframe/stillframe/zzlaws_internal_engine_b1.FnAtSymbolOnlyItsOwnTokensText'), WRITTEN BY PROGRAM (proof-skeleton.mjs, third state) off the guide's own print for that function. Not trusted: Lean checks it.
  THE HOLE IS FILLED, the slice of structs opened by hand. ALL ELSE IS THE GUIDE's OWN WAY (howto/template/XProofs.lean; Derived/Test/ChunkProofs.lean for 'Below') at this function's number and types: leave it.
-/
import Derived.Test.Qxb6614055aRows
import Derived.WalkKit
import Derived.ProofKit
import Derived.OpenShut
import Derived.ShutString
import Derived.ChangeOld
import Derived.Below
import Derived.Deep.Slices
import Derived.Lib.SmallJoins
import Derived.Test.Qxb6614055aTokMain
namespace Go.Proofs.Qxb6614055a.fnAtSymbolOnlyItsOwnTokensText
open Go.ChangeShapes Go.WideShapes Go.ChangeAt Go.RowKit
open Go.ChangeMaps (open_string shut_string)
set_option linter.unusedVariables false

theorem own : ownKnob Try.prog.godebug = none := by kernel_rfl
theorem laidOut : laidOutB Try.prog = true := by kernel_rfl

theorem Try.cells38 : Try.prog.cellsOf 38 = 4 := by kernel_rfl
theorem Try.cells5 : Try.prog.cellsOf 5 = 1 := by kernel_rfl
theorem Try.cells9 : Try.prog.cellsOf 9 = 1 := by kernel_rfl
theorem Try.cells3 : Try.prog.cellsOf 3 = 1 := by kernel_rfl

/-- WHAT THE WALK IS TOLD OF THE TOKENS THAT CAME IN: there are none; or each lies in four cells behind the slice's address. -/
def IsToks (w : World) (a : Option Addr) (len : Nat) : Prop :=
  len = 0 ∨ ∃ (b off : Nat) (K A E : Nat → Int) (X : Nat → ByteArray), a = some ⟨b, off, none⟩ ∧ 0 < len ∧ len ≤ maxLen ∧
    (∀ i, i < len → (X i).size ≤ maxLen) ∧ (∀ i, i < len → w.cell? ⟨b, off + i * 4, none⟩ = some (.int .u8 (K i))) ∧ (∀ i, i < len → w.cell? ⟨b, off + i * 4 + 1, none⟩ = some (.string (X i))) ∧
    (∀ i, i < len → w.cell? ⟨b, off + i * 4 + 2, none⟩ = some (.int .i64 (A i))) ∧ (∀ i, i < len → w.cell? ⟨b, off + i * 4 + 3, none⟩ = some (.int .i64 (E i)))

theorem walk (a0 : Option Addr) (len0 cap0 : Nat) (a1 : Int) (a2 : ByteArray) (w : World) (w0 : IsToks w a0 len0) (w2 : a2.size ≤ maxLen) :
    Calls Try.prog 5 #[.slice a0 len0 cap0, .int .i64 a1, .string a2] w fun e w' => e = .returned (.bool true) ∧ Below w.heap.size w w' := by
  unfold maxLen at w2
  rcases w0 with rfl | ⟨b, off, K, A, E, X, rfl, h0, hl, hx, c0, c1, c2, c3⟩
  · exact Tok.main_none a0 cap0 a1 a2 w w2
  · unfold maxLen at hl
    exact Tok.main_some b off len0 cap0 a1 K A E X a2 w h0 (fun i hi => by have := hx i hi; unfold maxLen at this; exact this) w2 hl c0 c1 c2 c3

theorem opened {H : Type} {enc : TypeId × Value → H} {W : World} {a0 : Option Addr} {len0 cap0 fuel : Nat} {x : DataW H × List MemPlace} (hf : DataW.trod enc Try.prog W 0 (fun _ => true) true fuel 35 [.slice a0 len0 cap0] = some x) : IsToks W a0 len0 := by
  rcases Go.Deep.open_slice Try.underlying35 hf with ⟨hcs, _⟩ | ⟨a, l, c, m, n, D, Pl, hcs, _, hl, hm, hmm, _, hx⟩
  · simp at hcs
    exact .inl hcs.2.1
  · simp at hcs
    obtain ⟨rfl, rfl, rfl⟩ := hcs
    simp only [if_true] at hmm
    subst hmm
    by_cases h0 : len0 = 0
    · exact .inl h0
    right
    have each : ∀ i, i < len0 → ∃ q : Int × ByteArray × Int × Int, W.cell? (a.add (i * 4)) = some (.int .u8 q.1) ∧ W.cell? ((a.add (i * 4)).add 1) = some (.string q.2.1) ∧ W.cell? ((a.add (i * 4)).add 2) = some (.int .i64 q.2.2.1) ∧ W.cell? ((a.add (i * 4)).add 3) = some (.int .i64 q.2.2.2) ∧ q.2.1.size ≤ maxLen := by
      intro i hi
      obtain ⟨cs, h1, h2⟩ := hx i (by omega)
      rw [Try.cells38] at h1
      obtain ⟨_, hlen, hcell⟩ := World.cells?_some h1
      obtain ⟨y0, y1, y2, y3, k, _, _, f0, f1, f2, f3⟩ := Go.Joins.trod_struct4 Try.underlying38 h2
      match cs, hlen with
      | [u0, u1, u2, u3], _ =>
        simp [Try.cells5, Try.cells9, Try.cells3] at f0 f1 f2 f3
        obtain ⟨k0, e0, _, _⟩ := DataW.trod_int Try.underlying5 f0
        obtain ⟨k1, e1, _, hs⟩ := DataW.trod_string Try.underlying9 f1
        obtain ⟨k2, e2, _, _⟩ := DataW.trod_int Try.underlying3 f2
        obtain ⟨k3, e3, _, _⟩ := DataW.trod_int Try.underlying3 f3
        simp at e0 e1 e2 e3
        subst e0 e1 e2 e3
        have g0 := hcell 0 (by omega)
        have g1 := hcell 1 (by omega)
        have g2 := hcell 2 (by omega)
        have g3 := hcell 3 (by omega)
        exact ⟨(k0, k1, k2, k3), by simpa [Addr.add] using g0, by simpa using g1, by simpa using g2, by simpa using g3, hs⟩
    obtain ⟨f, hf'⟩ := Go.Deep.choose_lt each
    obtain ⟨b, off, spot⟩ := a
    have hspot : spot = none := by
      have := World.cell?_spot (hf' 0 (by omega)).1
      simpa [Addr.add] using this
    subst hspot
    refine ⟨b, off, fun i => (f i).1, fun i => (f i).2.2.1, fun i => (f i).2.2.2, fun i => (f i).2.1, rfl, by omega, by omega, fun i hi => (hf' i hi).2.2.2.2, fun i hi => ?_, fun i hi => ?_, fun i hi => ?_, fun i hi => ?_⟩
    · have := (hf' i hi).1; rwa [add_plain] at this
    · have := (hf' i hi).2.1; rwa [add_plain, add_plain] at this
    · have := (hf' i hi).2.2.1; rwa [add_plain, add_plain] at this
    · have := (hf' i hi).2.2.2.1; rwa [add_plain, add_plain] at this

/-! ### THE ROW's STEP: WRITTEN OUT: LEAVE IT -/
set_option maxRecDepth 100000 in
theorem lifted (os : Os) (started : os.Started) (H : Type) (enc : TypeId × Value → H) :
    ReturnsInHanded {} Try.checked os 5 .any (Rows.fnAtSymbolOnlyItsOwnTokensTextSpec.pre6 enc Try.prog Try.f5 Rows.fnAtSymbolOnlyItsOwnTokensTextRow.domain false) (Rows.fnAtSymbolOnlyItsOwnTokensTextSpec.post enc Try.prog Try.f5 false true false false) := by
  refine returnsInHanded_of_change (C := Try.checked) own started (by kernel_rfl) Try.func5
    (ChangeSpec.witness6 (enc := enc) (C := Try.checked) false ⟨#[], #[.slice none 0 0, .int .i64 0, .string ByteArray.empty], []⟩ 8 (by kernel_rfl) (by kernel_rfl) (by kernel_rfl) (by kernel_rfl)) ?_
  intro W base args ds gs before hval0 hW hcnd _
  have hval : ∀ (j : Nat) t v, Try.f5.params[j]? = some t → args[j]? = some v → Value.okWide Try.prog W .any base t v := hval0
  have hW' := hW
  obtain ⟨p, q, hA0, hV, rfl, hfz, hnd⟩ := hW
  have hA : DataW.TrodAll enc Try.prog W 0 (fun _ => true) true Try.f5.params.toList args.toList ds p := hA0
  rw [Try.params5] at hA hval
  obtain ⟨v0, vs0, d0, ds0, p0, q0, hargs, rfl, rfl, h0, r0⟩ := trodAll_cons hA
  obtain ⟨v1, vs1, d1, ds1, p1, q1, rfl, rfl, rfl, h1, r1⟩ := trodAll_cons r0
  obtain ⟨v2, vs2, d2, ds2, p2, q2, rfl, rfl, rfl, h2, r2⟩ := trodAll_cons r1
  obtain ⟨rfl, rfl, rfl⟩ := trodAll_nil r2
  obtain rfl : args = #[v0, v1, v2] := by cases args; simp_all
  obtain ⟨rfl, rfl⟩ := trodVars_none hV
  obtain ⟨a0, len0, cap0, rfl⟩ := okWide_slice Try.underlying35 (hval 0 35 v0 rfl rfl)
  have k0 := h0
  have lt0 : ∀ x ∈ p0, x.block < W.heap.size := by obtain ⟨m, hm⟩ := k0; exact DataW.trod_lt m _ _ _ hm
  have w0 : IsToks W a0 len0 := by
    obtain ⟨fuel, hf⟩ := h0
    exact opened (by simpa [Value.cells] using hf)
  obtain ⟨a1, rfl, rfl, rfl, w1⟩ := open_int Try.underlying3 (hval 1 3 v1 rfl rfl) h1
  obtain ⟨a2, rfl, rfl, rfl, w2⟩ := open_string Try.underlying9 (hval 2 9 v2 rfl rfl) h2
  clear hA0 hval0
  refine (walk a0 len0 cap0 a1 a2 W w0 w2).mono fun e W' ⟨he, bel⟩ => ?_
  subst he
  exact ⟨_, rfl, _, _, _, [], _, [], hW', trodAll_mk1 (shut_bool Try.underlying4 _), (trodAll_cons_mk (Below.trod laidOut (by kernel_rfl) (of_decide_eq_true (by kernel_rfl)) k0 bel lt0) (trodAll_cons_mk (shut_int Try.underlying3 w1) (trodAll_cons_mk (shut_string Try.underlying9 w2) trodAll_mk0))), rfl, bel.frame _, fun h => by cases h⟩

theorem over : Rows.fnAtSymbolOnlyItsOwnTokensTextRow.holds Try.pinned (OpenSpec.ofChange Rows.fnAtSymbolOnlyItsOwnTokensTextSpec) :=
  OpenClaim.holds_of_wide 5 Try.f5 rfl rfl rfl rfl rfl rfl rfl ⟨rfl, rfl, rfl, rfl, rfl⟩ rfl rfl rfl rfl rfl (by kernel_rfl) Try.func5 (by kernel_rfl)
    (of_decide_eq_true (by kernel_rfl)) (by unfold Func.isWrapper; first | (rw [if_pos (by decide +kernel)]; kernel_rfl) | (rw [if_neg (by decide +kernel)]; exact ⟨rfl, rfl⟩))
    (fun os started H enc _ => lifted os started H enc)

/-- ████ THE STATEMENT ████ -/
theorem proved : Rows.FnAtSymbolOnlyItsOwnTokensTextSaid := over
end Go.Proofs.Qxb6614055a.fnAtSymbolOnlyItsOwnTokensText

namespace Go.Proofs.Qxb6614055a
/-- The given statement, by its short name. -/
theorem fnAtSymbolOnlyItsOwnTokensText_proved : Rows.FnAtSymbolOnlyItsOwnTokensTextSaid :=
  fnAtSymbolOnlyItsOwnTokensText.proved
end Go.Proofs.Qxb6614055a
