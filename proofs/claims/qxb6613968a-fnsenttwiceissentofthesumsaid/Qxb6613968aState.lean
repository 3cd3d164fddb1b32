/-
  What stands between the steps of FnSentTwiceIsSentOfTheSum.
-/
import Derived.Test.Qxb6613968aRead
namespace Go.Proofs.Qxb6613968a.Ch
open Go.ChangeShapes Go.WideShapes Go.ChangeAt Go.RowKit
set_option linter.unusedVariables false

theorem bt {a b c : World} (h : Below a.heap.size a b) (k : Below b.heap.size b c) : Below a.heap.size a c := h.trans (k.mono h.size)

/-- The world behind one 'sent'. -/
def sentW (x : World) (CB R : Nat) (z : Int) : World := ((x.setCell ⟨CB, 3, none⟩ (.int .i32 1)).setCell ⟨R, 4, none⟩ (.int .i64 z)).setCell ⟨CB, 3, none⟩ (.int .i32 0)

theorem sent_other (x : World) {CB R : Nat} (z : Int) {a : Addr} (h1 : a ≠ ⟨CB, 3, none⟩) (h2 : a ≠ ⟨R, 4, none⟩) : (sentW x CB R z).cell? a = x.cell? a := by
  unfold sentW
  rw [World.cell?_setCell_other _ _ _ _ (Ne.symm h1), World.cell?_setCell_other _ _ _ _ (Ne.symm h2), World.cell?_setCell_other _ _ _ _ (Ne.symm h1)]

theorem sent_frozen (x : World) (CB R : Nat) (z : Int) (a : Addr) : (sentW x CB R z).frozen? a = x.frozen? a := by
  unfold sentW
  simp

/-- Neither an int32 nor an int. -/
def Apart (v : Value) : Prop := (∀ i, v ≠ .int .i32 i) ∧ ∀ i, v ≠ .int .i64 i

theorem sent_apart {x : World} {CB R : Nat} {z y u : Int} {a : Addr} {v : Value} (hc : x.cell? ⟨CB, 3, none⟩ = some (.int .i32 y)) (hr : x.cell? ⟨R, 4, none⟩ = some (.int .i64 u)) (h : x.cell? a = some v) (hv : Apart v) : (sentW x CB R z).cell? a = some v := by
  rw [sent_other]
  · exact h
  · intro e; subst e; rw [hc] at h; exact hv.1 _ (Option.some.inj h).symm
  · intro e; subst e; rw [hr] at h; exact hv.2 _ (Option.some.inj h).symm

theorem sent_lock {x : World} {CB R : Nat} {z y : Int} (hne : CB ≠ R) (hc : x.cell? ⟨CB, 3, none⟩ = some (.int .i32 y)) : (sentW x CB R z).cell? ⟨CB, 3, none⟩ = some (.int .i32 0) := by
  unfold sentW
  refine World.cell?_setCell_same _ _ _ (u := .int .i32 1) ?_
  rw [World.cell?_setCell_other _ _ _ _ (by intro e; cases e)]
  exact World.cell?_setCell_same _ _ _ hc

theorem sent_count {x : World} {CB R : Nat} {z u : Int} (hr : x.cell? ⟨R, 4, none⟩ = some (.int .i64 u)) : (sentW x CB R z).cell? ⟨R, 4, none⟩ = some (.int .i64 z) := by
  unfold sentW
  rw [World.cell?_setCell_other _ _ _ _ (by intro e; cases e)]
  refine World.cell?_setCell_same _ _ _ (u := .int .i64 u) ?_
  rw [World.cell?_setCell_other _ _ _ _ (by intro e; cases e)]
  exact hr

theorem sent_block (x : World) {CB R k : Nat} (z : Int) (h1 : k ≠ CB) (h2 : k ≠ R) : (sentW x CB R z).heap[k]? = x.heap[k]? := by
  unfold sentW
  rw [Below.heap_setCell _ _ _ _ h1, Below.heap_setCell _ _ _ _ h2, Below.heap_setCell _ _ _ _ h1]

/-- All that stays the same from step to step. -/
structure Dat where
  w : World
  n : Nat
  m : Nat
  S : Nat → ByteArray
  I : Nat → Int
  L : Nat → Nat
  G : Nat → Option Addr
  D : Nat → Nat → Int
  S' : Nat → ByteArray
  I' : Nat → Int
  L' : Nat → Nat
  G' : Nat → Option Addr
  D' : Nat → Nat → Int
  R1 : Nat
  R2 : Nat
  CB : Nat
  c : Nat
  pa : Option Addr
  ra : Option Addr
  ct : Int
  tk : Bool

structure St (d : Dat) (u1 u2 : Int) (x : World) : Prop where
  bel : Below d.w.heap.size d.w x
  g1 : d.w.heap.size ≤ d.R1
  g2 : d.w.heap.size ≤ d.R2
  gc : d.w.heap.size ≤ d.CB
  n1 : d.CB ≠ d.R1
  n2 : d.CB ≠ d.R2
  n3 : d.R1 ≠ d.R2
  n4 : d.c ≠ d.CB
  n5 : d.c ≠ d.R2
  lock : x.cell? ⟨d.CB, 3, none⟩ = some (.int .i32 0)
  lf : x.frozen? ⟨d.CB, 3, none⟩ = false
  ch : ∃ s, x.heap[d.c]? = some (.chan 1 (if d.tk then #[.agg #[]] else #[]) false s 0 false)
  c0 : x.cell? ⟨d.R1, 0, none⟩ = some (.chan (some d.c))
  c2 : x.cell? ⟨d.R1, 2, none⟩ = some (.slice d.ra d.m d.m)
  c3 : x.cell? ⟨d.R1, 3, none⟩ = some (.slice d.pa d.n d.n)
  c4 : x.cell? ⟨d.R1, 4, none⟩ = some (.int .i64 u1)
  c5 : x.cell? ⟨d.R1, 5, none⟩ = some (.int .i64 d.ct)
  f4 : x.frozen? ⟨d.R1, 4, none⟩ = false
  d4 : x.cell? ⟨d.R2, 4, none⟩ = some (.int .i64 u2)
  e4 : x.frozen? ⟨d.R2, 4, none⟩ = false
  pe : EvAt x d.S d.I d.G d.L d.L d.n d.pa
  re : EvAt x d.S' d.I' d.G' d.L' d.L' d.m d.ra
  pd : ∀ j, j < d.n → RowAt x (fun i => .int .u8 (d.D j i)) (d.L j) (d.G j)
  rd : ∀ j, j < d.m → RowAt x (fun i => .int .u8 (d.D' j i)) (d.L' j) (d.G' j)

theorem frozen_later {w w' : World} {a : Addr} {v : Value} (hb : Below w.heap.size w w') (h : w.cell? a = some v) (hf : w.frozen? a = false) : w'.frozen? a = false :=
  (hb.frozen (World.block_lt_of_cell? _ _ h)).trans hf

theorem St.later {d : Dat} {u1 u2 : Int} {x y : World} (h : St d u1 u2 x) (hb : Below x.heap.size x y) : St d u1 u2 y where
  bel := bt h.bel hb
  g1 := h.g1
  g2 := h.g2
  gc := h.gc
  n1 := h.n1
  n2 := h.n2
  n3 := h.n3
  n4 := h.n4
  n5 := h.n5
  lock := cell_later hb h.lock
  lf := frozen_later hb h.lock h.lf
  ch := by
    obtain ⟨s, hs⟩ := h.ch
    exact ⟨s, (hb.block _ (Array.getElem?_eq_some_iff.1 hs).1).trans hs⟩
  c0 := cell_later hb h.c0
  c2 := cell_later hb h.c2
  c3 := cell_later hb h.c3
  c4 := cell_later hb h.c4
  c5 := cell_later hb h.c5
  f4 := frozen_later hb h.c4 h.f4
  d4 := cell_later hb h.d4
  e4 := frozen_later hb h.d4 h.e4
  pe := h.pe.later hb
  re := h.re.later hb
  pd := fun j hj => (h.pd j hj).later hb
  rd := fun j hj => (h.rd j hj).later hb

theorem apart_chan (c : Option Nat) : Apart (.chan c) := ⟨fun _ h => (by cases h), fun _ h => (by cases h)⟩
theorem apart_slice (a : Option Addr) (n c : Nat) : Apart (.slice a n c) := ⟨fun _ h => (by cases h), fun _ h => (by cases h)⟩
theorem apart_string (s : ByteArray) : Apart (.string s) := ⟨fun _ h => (by cases h), fun _ h => (by cases h)⟩
theorem apart_u64 (i : Int) : Apart (.int .u64 i) := ⟨fun _ h => (by cases h), fun _ h => (by cases h)⟩
theorem apart_u8 (i : Int) : Apart (.int .u8 i) := ⟨fun _ h => (by cases h), fun _ h => (by cases h)⟩

theorem ev_sent {x : World} {CB R : Nat} {z y u : Int} {S : Nat → ByteArray} {I : Nat → Int} {A : Nat → Option Addr} {L C : Nat → Nat} {n : Nat} {ao : Option Addr} (hc : x.cell? ⟨CB, 3, none⟩ = some (.int .i32 y)) (hr : x.cell? ⟨R, 4, none⟩ = some (.int .i64 u)) (h : EvAt x S I A L C n ao) : EvAt (sentW x CB R z) S I A L C n ao := fun hn => by
  obtain ⟨g, e, h⟩ := h hn
  refine ⟨g, e, fun j hj i v hv => sent_apart hc hr (h j hj i v hv) ?_⟩
  match i, hv with
  | 0, hv => obtain rfl := Option.some.inj hv; exact apart_string _
  | 1, hv => obtain rfl := Option.some.inj hv; exact apart_u64 _
  | 2, hv => obtain rfl := Option.some.inj hv; exact apart_slice _ _ _
  | i + 3, hv => simp at hv

theorem row_sent {x : World} {CB R : Nat} {z y u : Int} {H : Nat → Value} {n : Nat} {ao : Option Addr} (hc : x.cell? ⟨CB, 3, none⟩ = some (.int .i32 y)) (hr : x.cell? ⟨R, 4, none⟩ = some (.int .i64 u)) (h : RowAt x H n ao) (hv : ∀ j, Apart (H j)) : RowAt (sentW x CB R z) H n ao := fun hn => by
  obtain ⟨b, o, e, h⟩ := h hn
  exact ⟨b, o, e, fun j hj => sent_apart hc hr (h j hj) (hv j)⟩

/-- 'sent' on the first reader. -/
theorem St.sent1 {d : Dat} {u1 u2 : Int} {x : World} (h : St d u1 u2 x) (z : Int) : St d z u2 (sentW x d.CB d.R1 z) where
  bel := ((h.bel.setCell h.gc _).setCell h.g1 _).setCell h.gc _
  g1 := h.g1
  g2 := h.g2
  gc := h.gc
  n1 := h.n1
  n2 := h.n2
  n3 := h.n3
  n4 := h.n4
  n5 := h.n5
  lock := sent_lock h.n1 h.lock
  lf := (sent_frozen _ _ _ _ _).trans h.lf
  ch := by
    obtain ⟨s, hs⟩ := h.ch
    exact ⟨s, (sent_block x z h.n4 (Ne.symm (cell_chan hs h.c0))).trans hs⟩
  c0 := sent_apart h.lock h.c4 h.c0 (apart_chan _)
  c2 := sent_apart h.lock h.c4 h.c2 (apart_slice _ _ _)
  c3 := sent_apart h.lock h.c4 h.c3 (apart_slice _ _ _)
  c4 := sent_count h.c4
  c5 := (sent_other x z (by simp) (by simp)).trans h.c5
  f4 := (sent_frozen _ _ _ _ _).trans h.f4
  d4 := (sent_other x z (by simp) (by intro e; exact h.n3 (congrArg Addr.block e).symm)).trans h.d4
  e4 := (sent_frozen _ _ _ _ _).trans h.e4
  pe := ev_sent h.lock h.c4 h.pe
  re := ev_sent h.lock h.c4 h.re
  pd := fun j hj => row_sent h.lock h.c4 (h.pd j hj) (fun _ => apart_u8 _)
  rd := fun j hj => row_sent h.lock h.c4 (h.rd j hj) (fun _ => apart_u8 _)

/-- 'sent' on the second reader. -/
theorem St.sent2 {d : Dat} {u1 u2 : Int} {x : World} (h : St d u1 u2 x) (z : Int) : St d u1 z (sentW x d.CB d.R2 z) where
  bel := ((h.bel.setCell h.gc _).setCell h.g2 _).setCell h.gc _
  g1 := h.g1
  g2 := h.g2
  gc := h.gc
  n1 := h.n1
  n2 := h.n2
  n3 := h.n3
  n4 := h.n4
  n5 := h.n5
  lock := sent_lock h.n2 h.lock
  lf := (sent_frozen _ _ _ _ _).trans h.lf
  ch := by
    obtain ⟨s, hs⟩ := h.ch
    exact ⟨s, (sent_block x z h.n4 h.n5).trans hs⟩
  c0 := sent_apart h.lock h.d4 h.c0 (apart_chan _)
  c2 := sent_apart h.lock h.d4 h.c2 (apart_slice _ _ _)
  c3 := sent_apart h.lock h.d4 h.c3 (apart_slice _ _ _)
  c4 := (sent_other x z (by simp) (by intro e; exact h.n3 (congrArg Addr.block e))).trans h.c4
  c5 := (sent_other x z (by simp) (by simp)).trans h.c5
  f4 := (sent_frozen _ _ _ _ _).trans h.f4
  d4 := sent_count h.d4
  e4 := (sent_frozen _ _ _ _ _).trans h.e4
  pe := ev_sent h.lock h.d4 h.pe
  re := ev_sent h.lock h.d4 h.re
  pd := fun j hj => row_sent h.lock h.d4 (h.pd j hj) (fun _ => apart_u8 _)
  rd := fun j hj => row_sent h.lock h.d4 (h.rd j hj) (fun _ => apart_u8 _)

theorem wrap_sum (u a b : Int) : wrap64 (u - wrap64 (a + b)) = wrap64 (wrap64 (u - a) - b) := by
  unfold wrap64
  omega
end Go.Proofs.Qxb6613968a.Ch
