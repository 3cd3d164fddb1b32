/-
  ZZReaderPending, ZZReaderReplay.
-/
import Derived.Test.Qxb6613968aFields
namespace Go.Proofs.Qxb6613968a.Ch
open Go.ChangeShapes Go.WideShapes Go.ChangeAt Go.RowKit
set_option linter.unusedVariables false

theorem results_tmp4 {fn : Func} {t u v x : Tmp} (h : fn.results = #[.tmp t, .tmp u, .tmp v, .tmp x]) (tmps : Array Value) (P : Program) (w : World) :
    (results fn tmps).run P w = .ok (.tuple #[tmps.getD t undef, tmps.getD u undef, tmps.getD v undef, tmps.getD x undef]) w := by
  simp [results, h]

def ReadOut (S : Nat → ByteArray) (I : Nat → Int) (A : Nat → Option Addr) (L C : Nat → Nat) (n : Nat) (ao : Option Addr) (w : World) (e : Ending) (w' : World) : Prop :=
  ∃ g1 g2 g3, e = .returned (.tuple #[.slice g1 n n, .slice g2 n n, .slice g3 n n, .bool ao.isNone]) ∧ Below w.heap.size w w' ∧ RowAt w' (fun j => .string (S j)) n g1 ∧ RowAt w' (fun j => .int .u64 (I j)) n g2 ∧ RowAt w' (fun j => .slice (A j) (L j) (C j)) n g3

set_option maxRecDepth 100000 in
set_option maxHeartbeats 4000000 in
theorem pending_any (R : Nat) (ao : Option Addr) (n c : Nat) (S : Nat → ByteArray) (I : Nat → Int) (A : Nat → Option Addr) (L C : Nat → Nat) (w : World) (hn : n ≤ 1048576) (hc : w.cell? ⟨R, 3, none⟩ = some (.slice ao n n)) (he : Hid (EvAt w S I A L C n ao)) :
    Calls Try.prog 15 #[.pointer (some ⟨R, 0, none⟩)] w (ReadOut S I A L C n ao w) := by
  have hnil := fun (w : World) (x : Option Addr) (l k l' k' : Nat) => Lib.run_eql_slice_nil (P := Try.prog) w 51 60 x l k l' k' Try.underlying51
  go_enter Try.func15, Try.ntmps15
  go_wp2_with (go_at_call 31; refine (fields_any ao n n S I A L C w hn he).mono ?_; rintro e w1 ⟨g1, g2, g3, rfl, hb, q1, q2, q3⟩; have H1 : Hid (Below w.heap.size w w1 ∧ RowAt w1 (fun j => .string (S j)) n g1 ∧ RowAt w1 (fun j => .int .u64 (I j)) n g2 ∧ RowAt w1 (fun j => .slice (A j) (L j) (C j)) n g3) := ⟨hb, q1, q2, q3⟩; have hc1 : w1.cell? ⟨R, 3, none⟩ = some (.slice ao n n) := cell_later hb hc; clear hb q1 q2 q3)
  go_region_held3 (fun w' => w'.cell? ⟨R, 3, none⟩ = some (.slice ao n n)) (go_keep) (fail)
  all_goals
    go_wp2
    (try simp only [Exit.inBlock, Exit.then])
    refine bodyPost_ret (results_tmp4 rfl _ _ _) rfl ?_
    obtain ⟨hb, q1, q2, q3⟩ := H1.out
    exact ⟨g1, g2, g3, rfl, hb.drew, q1.drew, q2.drew, q3.drew⟩

set_option maxRecDepth 100000 in
set_option maxHeartbeats 4000000 in
theorem replay_any (R : Nat) (ao : Option Addr) (n c : Nat) (S : Nat → ByteArray) (I : Nat → Int) (A : Nat → Option Addr) (L C : Nat → Nat) (w : World) (hn : n ≤ 1048576) (hc : w.cell? ⟨R, 2, none⟩ = some (.slice ao n n)) (he : Hid (EvAt w S I A L C n ao)) :
    Calls Try.prog 16 #[.pointer (some ⟨R, 0, none⟩)] w (ReadOut S I A L C n ao w) := by
  have hnil := fun (w : World) (x : Option Addr) (l k l' k' : Nat) => Lib.run_eql_slice_nil (P := Try.prog) w 51 60 x l k l' k' Try.underlying51
  go_enter Try.func16, Try.ntmps16
  go_wp2_with (go_at_call 31; refine (fields_any ao n n S I A L C w hn he).mono ?_; rintro e w1 ⟨g1, g2, g3, rfl, hb, q1, q2, q3⟩; have H1 : Hid (Below w.heap.size w w1 ∧ RowAt w1 (fun j => .string (S j)) n g1 ∧ RowAt w1 (fun j => .int .u64 (I j)) n g2 ∧ RowAt w1 (fun j => .slice (A j) (L j) (C j)) n g3) := ⟨hb, q1, q2, q3⟩; have hc1 : w1.cell? ⟨R, 2, none⟩ = some (.slice ao n n) := cell_later hb hc; clear hb q1 q2 q3)
  go_region_held3 (fun w' => w'.cell? ⟨R, 2, none⟩ = some (.slice ao n n)) (go_keep) (fail)
  all_goals
    go_wp2
    (try simp only [Exit.inBlock, Exit.then])
    refine bodyPost_ret (results_tmp4 rfl _ _ _) rfl ?_
    obtain ⟨hb, q1, q2, q3⟩ := H1.out
    exact ⟨g1, g2, g3, rfl, hb.drew, q1.drew, q2.drew, q3.drew⟩
end Go.Proofs.Qxb6613968a.Ch
