/-
  THE SHELL OF A PROOF OF 'Rows.FnSentTwiceIsSentOfTheSumSaid' ('example.com/gaugewire/gaugewire/zzlaws_root_b1.FnSentTwiceIsSentOfTheSum'), WRITTEN BY PROGRAM (proof-skeleton.mjs, third state) off the guide's own print for that function. Not trusted: Lean checks it.
  THE HOLE IS FILLED, the slices opened by hand. ALL ELSE IS THE GUIDE's OWN WAY (howto/template/XProofs.lean; Derived/Test/ChunkProofs.lean for 'Below') at this function's number and types: leave it.
-/
import Derived.Test.Qxb6613968aRows
import Derived.WalkKit
import Derived.ProofKit
import Derived.OpenShut
import Derived.ShutString
import Derived.ChangeOld
import Derived.Below
import Derived.Test.Qxb6613968aOpen
import Derived.Test.Qxb6613968aLaw
namespace Go.Proofs.Qxb6613968a.fnSentTwiceIsSentOfTheSum
open Go.ChangeShapes Go.WideShapes Go.ChangeAt Go.RowKit
open Go.ChangeMaps (open_string shut_string)
set_option linter.unusedVariables false

theorem own : ownKnob Try.prog.godebug = none := by kernel_rfl
theorem laidOut : laidOutB Try.prog = true := by kernel_rfl

open Ch in
theorem walk (a0 : Option Addr) (len0 cap0 : Nat) (S0 : Nat → ByteArray) (a1 : Option Addr) (len1 cap1 : Nat) (I1 : Nat → Int) (a2 : Option Addr) (len2 cap2 : Nat) (A2 : Nat → Option Addr) (L2 C2 : Nat → Nat) (D2 : Nat → Nat → Int) (a3 : Option Addr) (len3 cap3 : Nat) (S3 : Nat → ByteArray) (a4 : Option Addr) (len4 cap4 : Nat) (I4 : Nat → Int) (a5 : Option Addr) (len5 cap5 : Nat) (A5 : Nat → Option Addr) (L5 C5 : Nat → Nat) (D5 : Nat → Nat → Int) (a6 : Int) (a7 : Int) (a8 : Bool) (a9 : Int) (a10 : Int) (w : World)
    (w0 : StrsIn w a0 len0 cap0 S0) (w1 : WrdsIn w a1 len1 cap1 I1) (w2 : ListIn w a2 len2 cap2 A2 L2 C2 D2) (w3 : StrsIn w a3 len3 cap3 S3) (w4 : WrdsIn w a4 len4 cap4 I4) (w5 : ListIn w a5 len5 cap5 A5 L5 C5 D5) :
    Calls Try.prog 5 #[.slice a0 len0 cap0, .slice a1 len1 cap1, .slice a2 len2 cap2, .slice a3 len3 cap3, .slice a4 len4 cap4, .slice a5 len5 cap5, .int .i64 a6, .int .i64 a7, .bool a8, .int .i64 a9, .int .i64 a10] w fun e w' => e = .returned (.bool true) ∧ Below w.heap.size w w' :=
  law_any a0 a1 a2 a3 a4 a5 len0 len1 len2 len3 len4 len5 cap0 cap1 cap2 cap3 cap4 cap5 S0 I1 A2 L2 C2 D2 S3 I4 A5 L5 C5 D5 a6 a7 a8 a9 a10 w w0.1 w1.1 w2.1 w3.1 w4.1 w5.1 w0.2.1 w1.2.1 w2.2.1 w3.2.1 w4.2.1 w5.2.1 w0.2.2 w1.2.2 w2.2.2.1 w3.2.2 w4.2.2 w5.2.2.1 w2.2.2.2 w5.2.2.2

/-! ### THE ROW's STEP: WRITTEN OUT: LEAVE IT -/
set_option maxRecDepth 100000 in
theorem lifted (os : Os) (started : os.Started) (H : Type) (enc : TypeId × Value → H) :
    ReturnsInHanded {} Try.checked os 5 .any (Rows.fnSentTwiceIsSentOfTheSumSpec.pre6 enc Try.prog Try.f5 Rows.fnSentTwiceIsSentOfTheSumRow.domain false) (Rows.fnSentTwiceIsSentOfTheSumSpec.post enc Try.prog Try.f5 false true false false) := by
  refine returnsInHanded_of_change (C := Try.checked) own started (by kernel_rfl) Try.func5
    (ChangeSpec.witness6 (enc := enc) (C := Try.checked) false ⟨#[], #[.slice none 0 0, .slice none 0 0, .slice none 0 0, .slice none 0 0, .slice none 0 0, .slice none 0 0, .int .i64 0, .int .i64 0, .bool false, .int .i64 0, .int .i64 0], []⟩ 8 (by kernel_rfl) (by kernel_rfl) (by kernel_rfl) (by kernel_rfl)) ?_
  intro W base args ds gs before hval0 hW hcnd _
  have hval : ∀ (j : Nat) t v, Try.f5.params[j]? = some t → args[j]? = some v → Value.okWide Try.prog W .any base t v := hval0
  have hW' := hW
  obtain ⟨p, q, hA0, hV, rfl, hfz, hnd⟩ := hW
  have hA : DataW.TrodAll enc Try.prog W 0 (fun _ => true) true Try.f5.params.toList args.toList ds p := hA0
  rw [Try.params5] at hA hval
  obtain ⟨v0, vs0, d0, ds0, p0, q0, hargs, rfl, rfl, h0, r0⟩ := trodAll_cons hA
  obtain ⟨v1, vs1, d1, ds1, p1, q1, rfl, rfl, rfl, h1, r1⟩ := trodAll_cons r0
  obtain ⟨v2, vs2, d2, ds2, p2, q2, rfl, rfl, rfl, h2, r2⟩ := trodAll_cons r1
  obtain ⟨v3, vs3, d3, ds3, p3, q3, rfl, rfl, rfl, h3, r3⟩ := trodAll_cons r2
  obtain ⟨v4, vs4, d4, ds4, p4, q4, rfl, rfl, rfl, h4, r4⟩ := trodAll_cons r3
  obtain ⟨v5, vs5, d5, ds5, p5, q5, rfl, rfl, rfl, h5, r5⟩ := trodAll_cons r4
  obtain ⟨v6, vs6, d6, ds6, p6, q6, rfl, rfl, rfl, h6, r6⟩ := trodAll_cons r5
  obtain ⟨v7, vs7, d7, ds7, p7, q7, rfl, rfl, rfl, h7, r7⟩ := trodAll_cons r6
  obtain ⟨v8, vs8, d8, ds8, p8, q8, rfl, rfl, rfl, h8, r8⟩ := trodAll_cons r7
  obtain ⟨v9, vs9, d9, ds9, p9, q9, rfl, rfl, rfl, h9, r9⟩ := trodAll_cons r8
  obtain ⟨v10, vs10, d10, ds10, p10, q10, rfl, rfl, rfl, h10, r10⟩ := trodAll_cons r9
  obtain ⟨rfl, rfl, rfl⟩ := trodAll_nil r10
  obtain rfl : args = #[v0, v1, v2, v3, v4, v5, v6, v7, v8, v9, v10] := by cases args; simp_all
  obtain ⟨rfl, rfl⟩ := trodVars_none hV
  obtain ⟨a0, len0, cap0, rfl⟩ := okWide_slice Try.underlying22 (hval 0 22 v0 rfl rfl)
  have k0 := h0
  have lt0 : ∀ x ∈ p0, x.block < W.heap.size := by obtain ⟨m, hm⟩ := k0; exact DataW.trod_lt m _ _ _ hm
  obtain ⟨S0, w0⟩ : ∃ z, Ch.StrsIn W a0 len0 cap0 z := by
    obtain ⟨fuel, hf⟩ := h0
    exact Ch.strs_open (by simpa [Value.cells] using hf)
  obtain ⟨a1, len1, cap1, rfl⟩ := okWide_slice Try.underlying23 (hval 1 23 v1 rfl rfl)
  have k1 := h1
  have lt1 : ∀ x ∈ p1, x.block < W.heap.size := by obtain ⟨m, hm⟩ := k1; exact DataW.trod_lt m _ _ _ hm
  obtain ⟨I1, w1⟩ : ∃ z, Ch.WrdsIn W a1 len1 cap1 z := by
    obtain ⟨fuel, hf⟩ := h1
    exact Ch.wrds_open (by simpa [Value.cells] using hf)
  obtain ⟨a2, len2, cap2, rfl⟩ := okWide_slice Try.underlying24 (hval 2 24 v2 rfl rfl)
  have k2 := h2
  have lt2 : ∀ x ∈ p2, x.block < W.heap.size := by obtain ⟨m, hm⟩ := k2; exact DataW.trod_lt m _ _ _ hm
  obtain ⟨A2, L2, C2, D2, w2⟩ : ∃ A L C D, Ch.ListIn W a2 len2 cap2 A L C D := by
    obtain ⟨fuel, hf⟩ := h2
    exact Ch.list_open (by simpa [Value.cells] using hf)
  obtain ⟨a3, len3, cap3, rfl⟩ := okWide_slice Try.underlying22 (hval 3 22 v3 rfl rfl)
  have k3 := h3
  have lt3 : ∀ x ∈ p3, x.block < W.heap.size := by obtain ⟨m, hm⟩ := k3; exact DataW.trod_lt m _ _ _ hm
  obtain ⟨S3, w3⟩ : ∃ z, Ch.StrsIn W a3 len3 cap3 z := by
    obtain ⟨fuel, hf⟩ := h3
    exact Ch.strs_open (by simpa [Value.cells] using hf)
  obtain ⟨a4, len4, cap4, rfl⟩ := okWide_slice Try.underlying23 (hval 4 23 v4 rfl rfl)
  have k4 := h4
  have lt4 : ∀ x ∈ p4, x.block < W.heap.size := by obtain ⟨m, hm⟩ := k4; exact DataW.trod_lt m _ _ _ hm
  obtain ⟨I4, w4⟩ : ∃ z, Ch.WrdsIn W a4 len4 cap4 z := by
    obtain ⟨fuel, hf⟩ := h4
    exact Ch.wrds_open (by simpa [Value.cells] using hf)
  obtain ⟨a5, len5, cap5, rfl⟩ := okWide_slice Try.underlying24 (hval 5 24 v5 rfl rfl)
  have k5 := h5
  have lt5 : ∀ x ∈ p5, x.block < W.heap.size := by obtain ⟨m, hm⟩ := k5; exact DataW.trod_lt m _ _ _ hm
  obtain ⟨A5, L5, C5, D5, w5⟩ : ∃ A L C D, Ch.ListIn W a5 len5 cap5 A L C D := by
    obtain ⟨fuel, hf⟩ := h5
    exact Ch.list_open (by simpa [Value.cells] using hf)
  obtain ⟨a6, rfl, rfl, rfl, w6⟩ := open_int Try.underlying3 (hval 6 3 v6 rfl rfl) h6
  obtain ⟨a7, rfl, rfl, rfl, w7⟩ := open_int Try.underlying3 (hval 7 3 v7 rfl rfl) h7
  obtain ⟨a8, rfl, rfl, rfl⟩ := open_bool Try.underlying4 (hval 8 4 v8 rfl rfl) h8
  obtain ⟨a9, rfl, rfl, rfl, w9⟩ := open_int Try.underlying3 (hval 9 3 v9 rfl rfl) h9
  obtain ⟨a10, rfl, rfl, rfl, w10⟩ := open_int Try.underlying3 (hval 10 3 v10 rfl rfl) h10
  clear hA0 hval0
  refine (walk a0 len0 cap0 S0 a1 len1 cap1 I1 a2 len2 cap2 A2 L2 C2 D2 a3 len3 cap3 S3 a4 len4 cap4 I4 a5 len5 cap5 A5 L5 C5 D5 a6 a7 a8 a9 a10 W w0 w1 w2 w3 w4 w5).mono fun e W' ⟨he, bel⟩ => ?_
  subst he
  exact ⟨_, rfl, _, _, _, [], _, [], hW', trodAll_mk1 (shut_bool Try.underlying4 _), (trodAll_cons_mk (Below.trod laidOut (by kernel_rfl) (of_decide_eq_true (by kernel_rfl)) k0 bel lt0) (trodAll_cons_mk (Below.trod laidOut (by kernel_rfl) (of_decide_eq_true (by kernel_rfl)) k1 bel lt1) (trodAll_cons_mk (Below.trod laidOut (by kernel_rfl) (of_decide_eq_true (by kernel_rfl)) k2 bel lt2) (trodAll_cons_mk (Below.trod laidOut (by kernel_rfl) (of_decide_eq_true (by kernel_rfl)) k3 bel lt3) (trodAll_cons_mk (Below.trod laidOut (by kernel_rfl) (of_decide_eq_true (by kernel_rfl)) k4 bel lt4) (trodAll_cons_mk (Below.trod laidOut (by kernel_rfl) (of_decide_eq_true (by kernel_rfl)) k5 bel lt5) (trodAll_cons_mk (shut_int Try.underlying3 w6) (trodAll_cons_mk (shut_int Try.underlying3 w7) (trodAll_cons_mk (shut_bool Try.underlying4 _) (trodAll_cons_mk (shut_int Try.underlying3 w9) (trodAll_cons_mk (shut_int Try.underlying3 w10) trodAll_mk0))))))))))), rfl, bel.frame _, fun h => by cases h⟩

theorem over : Rows.fnSentTwiceIsSentOfTheSumRow.holds Try.pinned (OpenSpec.ofChange Rows.fnSentTwiceIsSentOfTheSumSpec) :=
  OpenClaim.holds_of_wide 5 Try.f5 rfl rfl rfl rfl rfl rfl rfl ⟨rfl, rfl, rfl, rfl, rfl⟩ rfl rfl rfl rfl rfl (by kernel_rfl) Try.func5 (by kernel_rfl)
    (of_decide_eq_true (by kernel_rfl)) (by unfold Func.isWrapper; first | (rw [if_pos (by decide +kernel)]; kernel_rfl) | (rw [if_neg (by decide +kernel)]; exact ⟨rfl, rfl⟩))
    (fun os started H enc _ => lifted os started H enc)

/-- ████ THE STATEMENT ████ -/
theorem proved : Rows.FnSentTwiceIsSentOfTheSumSaid := over
end Go.Proofs.Qxb6613968a.fnSentTwiceIsSentOfTheSum

namespace Go.Proofs.Qxb6613968a
/-- The given statement, by its short name. -/
theorem fnSentTwiceIsSentOfTheSum_proved : Rows.FnSentTwiceIsSentOfTheSumSaid :=
  fnSentTwiceIsSentOfTheSum.proved
end Go.Proofs.Qxb6613968a
