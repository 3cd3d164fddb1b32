/-
  ZZNewChannelReader's composite literal: two channels, two lists of events, made in whatever order.
-/
import Derived.Test.Qxb6613968aEvents
import Derived.Conc.LoneCalls
import Derived.Deep.RegionWith
import Derived.Deep.DrawnRows
namespace Go.Proofs.Qxb6613968a.Ch
set_option linter.unusedSimpArgs false
open Go.ChangeShapes Go.WideShapes Go.ChangeAt Go.RowKit
set_option linter.unusedVariables false
attribute [local go_sem] Go.wp_at_zero Go.wp_at_succ

theorem bytes56 : ∃ i, Try.prog.info? 56 = some i ∧ i.bytes = 0 := by
  have h : (Try.prog.info? 56).map (·.bytes) = some 0 := by kernel_rfl
  obtain ⟨i, hi, hb⟩ := Option.map_eq_some_iff.1 h
  exact ⟨i, hi, hb⟩
theorem mkchan1 (w : World) : (Instr.makeChan 50 (.int .i64 1)).run Try.prog w = .ok (.chan (some w.heap.size)) (w.alloc (.chan 1 #[] false 0 0 false)) := by
  obtain ⟨i, hi, hb⟩ := bytes56
  simpa using Go.Conc.run_makeChan (P := Try.prog) (w := w) Try.underlying50 hi .i64 1 (by omega) (by rw [hb]; omega)
theorem mkchan0 (w : World) : (Instr.makeChan 50 (.int .i64 0)).run Try.prog w = .ok (.chan (some w.heap.size)) (w.alloc (.chan 0 #[] false 0 0 false)) := by
  obtain ⟨i, hi, hb⟩ := bytes56
  simpa using Go.Conc.run_makeChan (P := Try.prog) (w := w) Try.underlying50 hi .i64 0 (by omega) (by rw [hb]; omega)

/-- A fresh channel of room one. -/
def ChAt (w : World) (c : Nat) : Prop := w.heap[c]? = some (.chan 1 #[] false 0 0 false)

theorem ChAt.later {w w' : World} {c : Nat} (h : ChAt w c) (hb : Below w.heap.size w w') : ChAt w' c := by
  unfold ChAt at *
  rw [hb.block c (Array.getElem?_eq_some_iff.1 h).1]
  exact h

theorem ChAt.drew {w : World} {c : Nat} (h : ChAt w c) : ChAt w.drew c := h
theorem ChAt.alloc {w : World} {c : Nat} (h : ChAt w c) (o : Obj) : ChAt (w.alloc o) c := h.later ((Below.refl _ _).alloc (Nat.le_refl _) o)
theorem chAt_drew (w : World) (c : Nat) : ChAt w.drew c = ChAt w c := rfl
theorem ChAt.fresh (w : World) {c : Nat} (h : c = w.heap.size) : ChAt (w.alloc (.chan 1 #[] false 0 0 false)) c := by
  subst h
  unfold ChAt World.alloc
  simp

theorem chAt_fresh (w : World) (c : Nat) (h : c = w.heap.size) : ChAt (w.alloc (.chan 1 #[] false 0 0 false)) c = True := eq_true (ChAt.fresh w h)

/-- What is known behind the literal. -/
structure RdAt (w : World) (S : Nat → ByteArray) (I : Nat → Int) (A : Nat → Option Addr) (L C : Nat → Nat) (n : Nat) (an : Option Addr) (S' : Nat → ByteArray) (I' : Nat → Int) (A' : Nat → Option Addr) (L' C' : Nat → Nat) (m : Nat) (bn : Option Addr) (u ct : Int) (R c : Nat) (pa ra : Option Addr) (w' : World) : Prop where
  bel : Below w.heap.size w w'
  new : w.heap.size ≤ R
  cw : w.heap.size ≤ c
  ch : ChAt w' c
  c0 : w'.cell? ⟨R, 0, none⟩ = some (.chan (some c))
  c2 : w'.cell? ⟨R, 2, none⟩ = some (.slice ra m m)
  c3 : w'.cell? ⟨R, 3, none⟩ = some (.slice pa n n)
  c4 : w'.cell? ⟨R, 4, none⟩ = some (.int .i64 u)
  c5 : w'.cell? ⟨R, 5, none⟩ = some (.int .i64 ct)
  f4 : w'.frozen? ⟨R, 4, none⟩ = false
  pn : pa = none ↔ an = none
  rn : ra = none ↔ bn = none
  pe : EvAt w' S I A L C n pa
  re : EvAt w' S' I' A' L' C' m ra

def LitOut (w : World) (S : Nat → ByteArray) (I : Nat → Int) (A : Nat → Option Addr) (L C : Nat → Nat) (n : Nat) (an ai ad : Option Addr) (cn ci cd : Nat) (S' : Nat → ByteArray) (I' : Nat → Int) (A' : Nat → Option Addr) (L' C' : Nat → Nat) (m : Nat) (bn bi bd : Option Addr) (dn di dd : Nat) (u ct : Int) (tk : Bool) : Exit → Act → World → Prop
  | .normal, a, w' => ∃ (v21 v22 v23 v24 v26 v27 v28 v30 v31 v32 v33 : Value) (R c : Nat) (pa ra : Option Addr), a = { tmps := #[.slice an n cn, .slice ai n ci, .slice ad n cd, .slice bn m dn, .slice bi m di, .slice bd m dd, .int .i64 u, .int .i64 ct, .bool tk, undef, undef, undef, undef, undef, undef, undef, undef, undef, .pointer none, .pointer (some ⟨R, 0, none⟩), .chan (some c), v21, v22, v23, v24, .slice ra m m, v26, v27, v28, .slice pa n n, v30, v31, v32, v33, undef, undef, undef, undef, undef, undef, undef], defers := [] } ∧ RdAt w S I A L C n an S' I' A' L' C' m bn u ct R c pa ra w'
  | _, _, _ => False

/-- The second statement of a body. -/
def secondOf : Option Code → Code
  | some (.seq _ (.seq r _)) => r
  | _ => .skip

set_option maxRecDepth 100000 in
set_option maxHeartbeats 4000000 in
theorem lit_wp (w : World) (S : Nat → ByteArray) (I : Nat → Int) (A : Nat → Option Addr) (L C : Nat → Nat) (n : Nat) (an ai ad : Option Addr) (cn ci cd : Nat) (S' : Nat → ByteArray) (I' : Nat → Int) (A' : Nat → Option Addr) (L' C' : Nat → Nat) (m : Nat) (bn bi bd : Option Addr) (dn di dd : Nat) (u ct : Int) (tk : Bool)
    (h0 : Hid (an = none → n = 0 ∧ cn = 0)) (hn : n ≤ 1048576) (h0' : Hid (bn = none → m = 0 ∧ dn = 0)) (hm : m ≤ 1048576)
    (r1 : Hid (RowAt w (fun j => .string (S j)) n an)) (r2 : Hid (RowAt w (fun j => .int .u64 (I j)) n ai)) (r3 : Hid (RowAt w (fun j => .slice (A j) (L j) (C j)) n ad))
    (q1 : Hid (RowAt w (fun j => .string (S' j)) m bn)) (q2 : Hid (RowAt w (fun j => .int .u64 (I' j)) m bi)) (q3 : Hid (RowAt w (fun j => .slice (A' j) (L' j) (C' j)) m bd)) :
    Code.wp Try.prog (secondOf Try.f10.body) (LitOut w S I A L C n an ai ad cn ci cd S' I' A' L' C' m bn bi bd dn di dd u ct tk) { tmps := #[.slice an n cn, .slice ai n ci, .slice ad n cd, .slice bn m dn, .slice bi m di, .slice bd m dd, .int .i64 u, .int .i64 ct, .bool tk, undef, undef, undef, undef, undef, undef, undef, undef, undef, .pointer none, undef, undef, undef, undef, undef, undef, undef, undef, undef, undef, undef, undef, undef, undef, undef, undef, undef, undef, undef, undef, undef, undef], defers := [] } w := by
  simp only [secondOf, Try.f10]
  have hmc1 := mkchan1
  have hmc0 := mkchan0
  go_region_with (first
    | (go_at_call_of 28 bn; refine (mkEvents_any bn bi bd m dn di dd S' I' A' L' C' _ h0'.out hm (q1.out.later (by repeat (first | exact Below.refl _ _ | assumption | apply Below.drew | (refine Below.alloc ?_ (by first | omega | (simp <;> omega)) _)))) (q2.out.later (by repeat (first | exact Below.refl _ _ | assumption | apply Below.drew | (refine Below.alloc ?_ (by first | omega | (simp <;> omega)) _)))) (q3.out.later (by repeat (first | exact Below.refl _ _ | assumption | apply Below.drew | (refine Below.alloc ?_ (by first | omega | (simp <;> omega)) _))))).mono ?_; rintro e w1 ⟨ra, hra, rfl, hb1, he1⟩; have V1 : Below w.heap.size w w1 := (Below.trans (by repeat (first | exact Below.refl _ _ | assumption | apply Below.drew | (refine Below.alloc ?_ (by first | omega | (simp <;> omega)) _))) (hb1.mono (by simp <;> omega))); have Z1 := V1.size; have G1 : Hid (Below _ _ w1 ∧ EvAt w1 S' I' A' L' C' m ra ∧ (ra = none ↔ bn = none)) := ⟨hb1, he1, hra⟩; clear hb1 he1 hra)
    | (go_at_call_of 28 an; (refine (mkEvents_any an ai ad n cn ci cd S I A L C _ h0.out hn (r1.out.later (by repeat (first | exact Below.refl _ _ | assumption | apply Below.drew | (refine Below.alloc ?_ (by first | omega | (simp <;> omega)) _)))) (r2.out.later (by repeat (first | exact Below.refl _ _ | assumption | apply Below.drew | (refine Below.alloc ?_ (by first | omega | (simp <;> omega)) _)))) (r3.out.later (by repeat (first | exact Below.refl _ _ | assumption | apply Below.drew | (refine Below.alloc ?_ (by first | omega | (simp <;> omega)) _))))).mono ?_); rintro e w2 ⟨pa, hpa, rfl, hb2, he2⟩; have V2 : Below w.heap.size w w2 := (Below.trans (by repeat (first | exact Below.refl _ _ | assumption | apply Below.drew | (refine Below.alloc ?_ (by first | omega | (simp <;> omega)) _))) (hb2.mono (by first | omega | (simp <;> omega)))); have Z2 := V2.size; have G2 : Hid (Below _ _ w2 ∧ EvAt w2 S I A L C n pa ∧ (pa = none ↔ an = none)) := ⟨hb2, he2, hpa⟩; clear hb2 he2 hpa))
  all_goals
    obtain ⟨hb1, he1, hra⟩ := G1.out
    obtain ⟨hb2, he2, hpa⟩ := G2.out
    have zz := hb2.size
    have zy := hb1.size
    simp at zz zy
    refine ⟨_, _, _, _, _, _, _, _, _, _, _, _, _, _, _, rfl, ?_⟩
    refine ⟨?bel, ?new, ?cw, ?ch, ?c0, ?c2, ?c3, ?c4, ?c5, ?f4, hpa, hra, ?pe, ?re⟩
    case bel => repeat (first | exact Below.refl _ _ | assumption | apply Below.drew | (refine Below.alloc ?_ (by first | omega | (simp <;> omega)) _))
    case new => first | omega | (simp <;> omega)
    case cw => first | omega | (simp <;> omega)
    case ch => repeat (first | rw [chAt_drew] | (rw [chAt_fresh] <;> first | omega | (simp <;> omega)) | (refine ChAt.later ?_ hb2) | (refine ChAt.later ?_ hb1) | refine ChAt.alloc ?_ _)
    case c0 => simp [World.cell?_alloc_at]
    case c2 => simp [World.cell?_alloc_at]
    case c3 => simp [World.cell?_alloc_at]
    case c4 => simp [World.cell?_alloc_at]
    case c5 => simp [World.cell?_alloc_at]
    case f4 => simp [World.frozen?_alloc_at]
    case pe => exact he2.later (by repeat (first | exact Below.refl _ _ | apply Below.drew | (refine Below.alloc ?_ (by first | omega | (simp <;> omega)) _) | (refine Below.trans ?_ (Below.mono hb2 (by first | omega | (simp <;> omega))))))
    case re => exact he1.later (by repeat (first | exact Below.refl _ _ | apply Below.drew | (refine Below.alloc ?_ (by first | omega | (simp <;> omega)) _) | (refine Below.trans ?_ (Below.mono hb2 (by first | omega | (simp <;> omega))))))
end Go.Proofs.Qxb6613968a.Ch
