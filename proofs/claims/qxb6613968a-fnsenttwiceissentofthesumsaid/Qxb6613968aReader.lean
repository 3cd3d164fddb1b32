/-
  ZZNewChannelReader by a contract: the literal, then, with a token, one send into a buffer with room.
-/
import Derived.Test.Qxb6613968aRd
namespace Go.Proofs.Qxb6613968a.Ch
open Go.ChangeShapes Go.WideShapes Go.ChangeAt Go.RowKit Go.Conc
set_option linter.unusedVariables false

/-- What is known of a reader that ZZNewChannelReader has made. -/
structure ReaderAt (S : Nat → ByteArray) (I : Nat → Int) (A : Nat → Option Addr) (L C : Nat → Nat) (n : Nat) (an : Option Addr) (S' : Nat → ByteArray) (I' : Nat → Int) (A' : Nat → Option Addr) (L' C' : Nat → Nat) (m : Nat) (bn : Option Addr) (u ct : Int) (tk : Bool) (R c : Nat) (pa ra : Option Addr) (w' : World) : Prop where
  ch : ∃ s, w'.heap[c]? = some (.chan 1 (if tk then #[.agg #[]] else #[]) false s 0 false)
  c0 : w'.cell? ⟨R, 0, none⟩ = some (.chan (some c))
  c2 : w'.cell? ⟨R, 2, none⟩ = some (.slice ra m m)
  c3 : w'.cell? ⟨R, 3, none⟩ = some (.slice pa n n)
  c4 : w'.cell? ⟨R, 4, none⟩ = some (.int .i64 u)
  c5 : w'.cell? ⟨R, 5, none⟩ = some (.int .i64 ct)
  f4 : w'.frozen? ⟨R, 4, none⟩ = false
  pn : pa = none ↔ an = none
  rn : ra = none ↔ bn = none
  pe : EvAt w' S I A L C n pa
  re : EvAt w' S' I' A' L' C' m ra

def ReaderOut (w : World) (S : Nat → ByteArray) (I : Nat → Int) (A : Nat → Option Addr) (L C : Nat → Nat) (n : Nat) (an : Option Addr) (S' : Nat → ByteArray) (I' : Nat → Int) (A' : Nat → Option Addr) (L' C' : Nat → Nat) (m : Nat) (bn : Option Addr) (u ct : Int) (tk : Bool) (e : Ending) (w' : World) : Prop :=
  ∃ R c pa ra, e = .returned (.pointer (some ⟨R, 0, none⟩)) ∧ w.heap.size ≤ R ∧ w.heap.size ≤ c ∧ Below w.heap.size w w' ∧ ReaderAt S I A L C n an S' I' A' L' C' m bn u ct tk R c pa ra w'

theorem cell_chan {w : World} {c cap s r : Nat} {buf : Array Value} {cl tm : Bool} (hc : w.heap[c]? = some (.chan cap buf cl s r tm)) {a : Addr} {v : Value} (h : w.cell? a = some v) : a.block ≠ c := by
  intro e
  subst e
  unfold World.cell? at h
  simp [hc] at h

theorem block_setChan (w : World) {c k : Nat} (h : k ≠ c) (cap : Nat) (buf : Array Value) (cl : Bool) (s r : Nat) (tm : Bool) : (w.setChan c cap buf cl s r tm).heap[k]? = w.heap[k]? := by
  simp only [World.setChan]
  rw [Array.getElem?_setIfInBounds_ne (Ne.symm h)]

theorem cell_setChan {w : World} {c cap s r cap' s' r' : Nat} {buf buf' : Array Value} {cl tm cl' tm' : Bool} (hc : w.heap[c]? = some (.chan cap buf cl s r tm)) {a : Addr} {v : Value} (h : w.cell? a = some v) : (w.setChan c cap' buf' cl' s' r' tm').cell? a = some v :=
  (World.cell?_of_block (w := w) (block_setChan w (cell_chan hc h) _ _ _ _ _ _)).trans h

theorem loneTo_steps {P : Program} {Q : Goroutine → World → Prop} {g g' : Goroutine} {w w' : World} (h : Steps P (solo g w) (solo g' w')) (h' : LoneTo P Q g' w') : LoneTo P Q g w := by
  obtain ⟨g2, w2, hs, hq⟩ := h'
  exact ⟨g2, w2, Steps.trans h hs, hq⟩

set_option maxRecDepth 100000 in
set_option maxHeartbeats 4000000 in
theorem reader_any (w : World) (S : Nat → ByteArray) (I : Nat → Int) (A : Nat → Option Addr) (L C : Nat → Nat) (n : Nat) (an ai ad : Option Addr) (cn ci cd : Nat) (S' : Nat → ByteArray) (I' : Nat → Int) (A' : Nat → Option Addr) (L' C' : Nat → Nat) (m : Nat) (bn bi bd : Option Addr) (dn di dd : Nat) (u ct : Int) (tk : Bool)
    (h0 : Hid (an = none → n = 0 ∧ cn = 0)) (hn : n ≤ 1048576) (h0' : Hid (bn = none → m = 0 ∧ dn = 0)) (hm : m ≤ 1048576)
    (r1 : Hid (RowAt w (fun j => .string (S j)) n an)) (r2 : Hid (RowAt w (fun j => .int .u64 (I j)) n ai)) (r3 : Hid (RowAt w (fun j => .slice (A j) (L j) (C j)) n ad))
    (q1 : Hid (RowAt w (fun j => .string (S' j)) m bn)) (q2 : Hid (RowAt w (fun j => .int .u64 (I' j)) m bi)) (q3 : Hid (RowAt w (fun j => .slice (A' j) (L' j) (C' j)) m bd)) :
    Calls Try.prog 10 #[.slice an n cn, .slice ai n ci, .slice ad n cd, .slice bn m dn, .slice bi m di, .slice bd m dd, .int .i64 u, .int .i64 ct, .bool tk] w (ReaderOut w S I A L C n an S' I' A' L' C' m bn u ct tk) := by
  refine calls_of_loneTo (fun cs => ?_) (by rintro _ ⟨R, c, pa, ra, h, _⟩; cases h)
  have e : Frame.enter Try.prog 10 #[.slice an n cn, .slice ai n ci, .slice ad n cd, .slice bn m dn, .slice bi m di, .slice bd m dd, .int .i64 u, .int .i64 ct, .bool tk] .normal = (base 10).at ⟨#[.slice an n cn, .slice ai n ci, .slice ad n cd, .slice bn m dn, .slice bi m di, .slice bd m dd, .int .i64 u, .int .i64 ct, .bool tk, undef, undef, undef, undef, undef, undef, undef, undef, undef, undef, undef, undef, undef, undef, undef, undef, undef, undef, undef, undef, undef, undef, undef, undef, undef, undef, undef, undef, undef, undef, undef, undef], []⟩ [.code (Try.f10.body.getD .skip)] := by
    simp [Frame.enter, Frame.at, Try.func10, base, Try.f10]
    try rfl
  rw [e]
  refine LoneTo.goes (n := 5) ?_
  simp only [Try.f10, Option.getD_some]
  s_c stepG_seq
  s_reg
  s_op
  s_c stepG_region_end
  s_c stepG_seq
  s_stop
  obtain ⟨x, a, w1, hq, hs⟩ := lit_wp w S I A L C n an ai ad cn ci cd S' I' A' L' C' m bn bi bd dn di dd u ct tk h0 hn h0' hm r1 r2 r3 q1 q2 q3 (base 10) _ cs
  cases x with
  | normal =>
    obtain ⟨v21, v22, v23, v24, v26, v27, v28, v30, v31, v32, v33, R, c, pa, ra, rfl, K⟩ := hq
    refine loneTo_steps (g' := G ((base 10).at { tmps := #[.slice an n cn, .slice ai n ci, .slice ad n cd, .slice bn m dn, .slice bi m di, .slice bd m dd, .int .i64 u, .int .i64 ct, .bool tk, undef, undef, undef, undef, undef, undef, undef, undef, undef, .pointer none, .pointer (some ⟨R, 0, none⟩), .chan (some c), v21, v22, v23, v24, .slice ra m m, v26, v27, v28, .slice pa n n, v30, v31, v32, v33, undef, undef, undef, undef, undef, undef, undef], defers := [] } _) cs) (w' := w1) hs ?_
    clear hs e
    cases tk with
    | false =>
      refine LoneTo.goes (n := 13) ?_
      s_c stepG_seq
      s_c stepG_seq
      s_reg
      s_op
      s_c stepG_region_end
      s_cond false
      s_c stepG_skip
      s_c stepG_seq
      s_reg
      s_op
      s_op
      s_c stepG_region_end
      s_c stepG_ret'
      s_stop
      refine LoneTo.done ⟨.returned (.pointer (some ⟨R, 0, none⟩)), _, rfl, ⟨R, c, pa, ra, rfl, K.new, K.cw, K.bel, ⟨⟨0, K.ch⟩, K.c0, K.c2, K.c3, K.c4, K.c5, K.f4, K.pn, K.rn, K.pe, K.re⟩⟩, rfl, rfl, rfl, rfl, _, Try.func10, by simp [results, Try.f10, Frame.at]⟩
    | true =>
      have k0 := K.c0
      refine LoneTo.goes (n := 12) ?_
      s_c stepG_seq
      s_c stepG_seq
      s_reg
      s_op
      s_c stepG_region_end
      s_cond true
      s_reg
      s_op
      s_op
      s_op
      s_op
      s_op
      s_stop
      refine LoneTo.step (step_lone_send_room (c := c) (cap := 1) (buf := #[]) (s := 0) (r := 0) (tm := false) (stepG_comm (cases := #[scase c (.agg #[]) (.tuple #[])]) (blocking := true) (shape := .send) (w' := w1) rfl rfl (by decide) (by simp [execOp, scase, Act.eval])) K.ch (by simp)) ?_
      rw [Frame.finish_at]
      walk_nrm
      refine LoneTo.goes (n := 7) ?_
      s_c stepG_region_end
      s_c stepG_seq
      s_reg
      s_op
      s_op
      s_c stepG_region_end
      s_c stepG_ret'
      s_stop
      refine LoneTo.done ⟨.returned (.pointer (some ⟨R, 0, none⟩)), _, rfl, ⟨R, c, pa, ra, rfl, K.new, K.cw, below_setChan K.bel K.cw _ _ _ _ _ _, ⟨⟨1, ?_⟩, cell_setChan K.ch K.c0, cell_setChan K.ch K.c2, cell_setChan K.ch K.c3, cell_setChan K.ch K.c4, cell_setChan K.ch K.c5, ?_, K.pn, K.rn, ?_, ?_⟩⟩, rfl, rfl, rfl, rfl, _, Try.func10, by simp [results, Try.f10, Frame.at]⟩
      · exact heap_setChan _ _ _ _ _ _ _ _ (Array.getElem?_eq_some_iff.1 K.ch).1
      · exact (World.frozen?_of_block (w := w1) (block_setChan w1 (cell_chan K.ch K.c4) _ _ _ _ _ _)).trans K.f4
      · intro hp
        obtain ⟨g, e, hc⟩ := K.pe hp
        exact ⟨g, e, fun j hj i v hv => cell_setChan K.ch (hc j hj i v hv)⟩
      · intro hp
        obtain ⟨g, e, hc⟩ := K.re hp
        exact ⟨g, e, fun j hj i v hv => cell_setChan K.ch (hc j hj i v hv)⟩
  | _ => exact absurd hq id
end Go.Proofs.Qxb6613968a.Ch
