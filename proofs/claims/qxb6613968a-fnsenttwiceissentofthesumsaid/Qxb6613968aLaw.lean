/-
  FnSentTwiceIsSentOfTheSum: the walk.
-/
import Derived.Test.Qxb6613968aState
namespace Go.Proofs.Qxb6613968a.Ch
open Go.ChangeShapes Go.WideShapes Go.ChangeAt Go.RowKit
set_option linter.unusedVariables false

theorem lens_same (an ai ad : Option Addr) (n cn ci cd : Nat) (w : World) :
    Calls Try.prog 8 #[.slice an n cn, .slice ai n ci, .slice ad n cd] w fun e w' => e = .returned (.bool true) ∧ w' = w :=
  (lens_any an ai ad n n n cn ci cd w).mono fun e w' h => by simpa using h

theorem lens_diff (an ai ad : Option Addr) (n ni nd cn ci cd : Nat) (w : World) (h : ¬ (ni = n ∧ nd = n)) :
    Calls Try.prog 8 #[.slice an n cn, .slice ai ni ci, .slice ad nd cd] w fun e w' => e = .returned (.bool false) ∧ w' = w :=
  (lens_any an ai ad n ni nd cn ci cd w).mono fun e w' q => by simpa [h] using q

theorem none_isNone {p a : Option Addr} (h : p = none ↔ a = none) : p.isNone = a.isNone := by
  cases p <;> cases a <;> simp_all

set_option maxRecDepth 100000 in
set_option maxHeartbeats 8000000 in
theorem law_any (an ai ad bn bi bd : Option Addr) (n ni nd m mi md cn ci cd dn di dd : Nat) (S : Nat → ByteArray) (I : Nat → Int) (A : Nat → Option Addr) (L C : Nat → Nat) (D : Nat → Nat → Int) (S' : Nat → ByteArray) (I' : Nat → Int) (A' : Nat → Option Addr) (L' C' : Nat → Nat) (D' : Nat → Nat → Int) (u ct : Int) (tk : Bool) (a b : Int) (w : World)
    (z1 : Hid (an = none → n = 0 ∧ cn = 0)) (z2 : Hid (ai = none → ni = 0 ∧ ci = 0)) (z3 : Hid (ad = none → nd = 0 ∧ cd = 0)) (z4 : Hid (bn = none → m = 0 ∧ dn = 0)) (z5 : Hid (bi = none → mi = 0 ∧ di = 0)) (z6 : Hid (bd = none → md = 0 ∧ dd = 0))
    (b1 : n ≤ 9223372036854775807) (b2 : ni ≤ 9223372036854775807) (b3 : nd ≤ 9223372036854775807) (b4 : m ≤ 9223372036854775807) (b5 : mi ≤ 9223372036854775807) (b6 : md ≤ 9223372036854775807)
    (r1 : Hid (RowAt w (fun j => .string (S j)) n an)) (r2 : Hid (RowAt w (fun j => .int .u64 (I j)) ni ai)) (r3 : Hid (RowAt w (fun j => .slice (A j) (L j) (C j)) nd ad))
    (q1 : Hid (RowAt w (fun j => .string (S' j)) m bn)) (q2 : Hid (RowAt w (fun j => .int .u64 (I' j)) mi bi)) (q3 : Hid (RowAt w (fun j => .slice (A' j) (L' j) (C' j)) md bd))
    (rd : Hid (∀ j, j < nd → (A j = none → L j = 0 ∧ C j = 0) ∧ L j ≤ 9223372036854775807 ∧ RowAt w (fun i => .int .u8 (D j i)) (L j) (A j)))
    (qd : Hid (∀ j, j < md → (A' j = none → L' j = 0 ∧ C' j = 0) ∧ L' j ≤ 9223372036854775807 ∧ RowAt w (fun i => .int .u8 (D' j i)) (L' j) (A' j))) :
    Calls Try.prog 5 #[.slice an n cn, .slice ai ni ci, .slice ad nd cd, .slice bn m dn, .slice bi mi di, .slice bd md dd, .int .i64 u, .int .i64 ct, .bool tk, .int .i64 a, .int .i64 b] w fun e w' => e = .returned (.bool true) ∧ Below w.heap.size w w' := by
  have hl : Hid (∀ i, i < nd → L i ≤ 9223372036854775807) := fun i hi => (rd.out i hi).2.1
  have hl' : Hid (∀ i, i < md → L' i ≤ 9223372036854775807) := fun i hi => (qd.out i hi).2.1
  have hnil := fun (w : World) (x : Option Addr) (l k l' k' : Nat) => Lib.run_eql_slice_nil (P := Try.prog) w 22 9 x l k l' k' Try.underlying22
  go_enter Try.func5, Try.ntmps5
  go_wp2_with fail
  refine (bytes24 an ai ad bn bi bd n ni nd m mi md cn ci cd dn di dd S A L C S' A' L' C' u ct tk a b w r1 r3 hl q1 q3 hl' b1 b2 b3 b4 b5 b6).mono ?_
  rintro e w' ⟨r, rfl, hw, hr⟩
  subst w'
  cases r
  · clear hr
    go_wp2
    go_ret
    exact ⟨rfl, Below.refl _ _⟩
  obtain ⟨l1, l2, l3, l4, l5, l6, l7, l8⟩ := hr rfl
  have L7 : Hid (∀ j, j < nd → L j ≤ 1048576) := l7
  have L8 : Hid (∀ j, j < md → L' j ≤ 1048576) := l8
  clear hr l7 l8 hl hl' b1 b2 b3 b4 b5 b6
  go_wp2_with fail
  refine (size_any 0 an ai ad n ni nd cn ci cd S A L C w l1 l3 r1 r3).mono ?_
  rintro e w' ⟨t1, rfl, hw⟩
  subst w'
  by_cases ht1 : 1048576 < t1
  · have hd1 : decide (1048576 < t1) = true := by simpa using ht1
    go_wp2
    go_ret
    exact ⟨rfl, Below.refl _ _⟩
  have hd1 : decide (1048576 < t1) = false := by simpa using ht1
  clear ht1
  go_wp2_with fail
  refine (size_any t1 bn bi bd m mi md dn di dd S' A' L' C' w l4 l6 q1 q3).mono ?_
  rintro e w' ⟨t2, rfl, hw⟩
  subst w'
  by_cases ht2 : 1048576 < t2
  · have hd2 : decide (1048576 < t2) = true := by simpa using ht2
    go_wp2
    go_ret
    exact ⟨rfl, Below.refl _ _⟩
  have hd2 : decide (1048576 < t2) = false := by simpa using ht2
  clear ht2
  go_wp2_with fail
  by_cases hs1 : ni = n ∧ nd = n
  rotate_left
  · refine (lens_diff an ai ad n ni nd cn ci cd w hs1).mono ?_
    rintro e w' ⟨rfl, hw⟩
    subst w'
    clear hs1
    go_wp2
    go_ret
    exact ⟨rfl, Below.refl _ _⟩
  obtain ⟨e1, e2⟩ := hs1
  subst ni
  subst nd
  clear l2 l3
  refine (lens_same an ai ad n cn ci cd w).mono ?_
  rintro e w' ⟨rfl, hw⟩
  subst w'
  go_wp2_with fail
  by_cases hs1 : mi = m ∧ md = m
  rotate_left
  · refine (lens_diff bn bi bd m mi md dn di dd w hs1).mono ?_
    rintro e w' ⟨rfl, hw⟩
    subst w'
    clear hs1
    go_wp2
    go_ret
    exact ⟨rfl, Below.refl _ _⟩
  obtain ⟨e1, e2⟩ := hs1
  subst mi
  subst md
  clear l5 l6
  refine (lens_same bn bi bd m dn di dd w).mono ?_
  rintro e w' ⟨rfl, hw⟩
  subst w'
  go_wp2_with fail
  refine (cloneStr_any an n cn S w z1.out r1.out l1).mono ?_
  rintro e w1 ⟨a1, ha, rfl, hb, hr⟩
  have B1 : Hid (Below w.heap.size w w1) := hb
  have Y1 : Hid (RowAt w1 (fun j => .string (S j)) n a1) := hr
  have N1 : Hid (a1 = none ↔ an = none) := ha
  have V1 : Hid (Below w.heap.size w w1) := hb
  clear ha hb hr
  go_wp2_with fail
  refine (cloneWrd_any ai n ci I w1 z2.out (r2.out.later V1.out) l1).mono ?_
  rintro e w2 ⟨a2, ha, rfl, hb, hr⟩
  have B2 : Hid (Below w1.heap.size w1 w2) := hb
  have Y2 : Hid (RowAt w2 (fun j => .int .u64 (I j)) n a2) := hr
  have N2 : Hid (a2 = none ↔ ai = none) := ha
  have V2 : Hid (Below w.heap.size w w2) := bt V1.out hb
  clear ha hb hr
  go_wp2_with fail
  refine (cloneList_any ad n cd A L C D w2 z3.out (r3.out.later V2.out) l1 (fun j hj => ⟨(rd.out j hj).1, L7.out j hj, (rd.out j hj).2.2.later V2.out⟩)).mono ?_
  rintro e w3 ⟨a3, G3, ha, rfl, hb, hr, hx⟩
  have B3 : Hid (Below w2.heap.size w2 w3) := hb
  have Y3 : Hid (RowAt w3 (fun j => .slice (G3 j) (L j) (L j)) n a3) := hr
  have X3 : Hid (∀ j, j < n → RowAt w3 (fun t => .int .u8 (D j t)) (L j) (G3 j)) := hx
  have N3 : Hid (a3 = none ↔ ad = none) := ha
  have V3 : Hid (Below w.heap.size w w3) := bt V2.out hb
  clear ha hb hr hx
  go_wp2_with fail
  refine (cloneStr_any bn m dn S' w3 z4.out (q1.out.later V3.out) l4).mono ?_
  rintro e w4 ⟨a4, ha, rfl, hb, hr⟩
  have B4 : Hid (Below w3.heap.size w3 w4) := hb
  have Y4 : Hid (RowAt w4 (fun j => .string (S' j)) m a4) := hr
  have N4 : Hid (a4 = none ↔ bn = none) := ha
  have V4 : Hid (Below w.heap.size w w4) := bt V3.out hb
  clear ha hb hr
  go_wp2_with fail
  refine (cloneWrd_any bi m di I' w4 z5.out (q2.out.later V4.out) l4).mono ?_
  rintro e w5 ⟨a5, ha, rfl, hb, hr⟩
  have B5 : Hid (Below w4.heap.size w4 w5) := hb
  have Y5 : Hid (RowAt w5 (fun j => .int .u64 (I' j)) m a5) := hr
  have N5 : Hid (a5 = none ↔ bi = none) := ha
  have V5 : Hid (Below w.heap.size w w5) := bt V4.out hb
  clear ha hb hr
  go_wp2_with fail
  refine (cloneList_any bd m dd A' L' C' D' w5 z6.out (q3.out.later V5.out) l4 (fun j hj => ⟨(qd.out j hj).1, L8.out j hj, (qd.out j hj).2.2.later V5.out⟩)).mono ?_
  rintro e w6 ⟨a6, G6, ha, rfl, hb, hr, hx⟩
  have B6 : Hid (Below w5.heap.size w5 w6) := hb
  have Y6 : Hid (RowAt w6 (fun j => .slice (G6 j) (L' j) (L' j)) m a6) := hr
  have X6 : Hid (∀ j, j < m → RowAt w6 (fun t => .int .u8 (D' j t)) (L' j) (G6 j)) := hx
  have N6 : Hid (a6 = none ↔ bd = none) := ha
  have V6 : Hid (Below w.heap.size w w6) := bt V5.out hb
  clear ha hb hr hx
  go_wp2_with fail
  refine (reader_any w6 S I G3 L L n a1 a2 a3 n n n S' I' G6 L' L' m a4 a5 a6 m m m u ct tk (fun h => ⟨(z1.out (N1.out.1 h)).1, (z1.out (N1.out.1 h)).1⟩) l1 (fun h => ⟨(z4.out (N4.out.1 h)).1, (z4.out (N4.out.1 h)).1⟩) l4 (Y1.out.later (bt (bt (bt (bt B2.out B3.out) B4.out) B5.out) B6.out)) (Y2.out.later (bt (bt (bt B3.out B4.out) B5.out) B6.out)) (Y3.out.later (bt (bt B4.out B5.out) B6.out)) (Y4.out.later (bt B5.out B6.out)) (Y5.out.later B6.out) Y6).mono ?_
  rintro e w7 ⟨R7, c7, p7, s7, rfl, h1, h2, hb, hk⟩
  have B7 : Hid (Below w6.heap.size w6 w7) := hb
  have V7 : Hid (Below w.heap.size w w7) := bt V6.out hb
  have K7 : Hid (w6.heap.size ≤ R7 ∧ w6.heap.size ≤ c7 ∧ ReaderAt S I G3 L L n a1 S' I' G6 L' L' m a4 u ct tk R7 c7 p7 s7 w7) := ⟨h1, h2, hk⟩
  clear h1 h2 hb hk
  go_wp2_with fail
  refine (cloneStr_any an n cn S w7 z1.out (r1.out.later V7.out) l1).mono ?_
  rintro e w8 ⟨a8, ha, rfl, hb, hr⟩
  have B8 : Hid (Below w7.heap.size w7 w8) := hb
  have Y8 : Hid (RowAt w8 (fun j => .string (S j)) n a8) := hr
  have N8 : Hid (a8 = none ↔ an = none) := ha
  have V8 : Hid (Below w.heap.size w w8) := bt V7.out hb
  clear ha hb hr
  go_wp2_with fail
  refine (cloneWrd_any ai n ci I w8 z2.out (r2.out.later V8.out) l1).mono ?_
  rintro e w9 ⟨a9, ha, rfl, hb, hr⟩
  have B9 : Hid (Below w8.heap.size w8 w9) := hb
  have Y9 : Hid (RowAt w9 (fun j => .int .u64 (I j)) n a9) := hr
  have N9 : Hid (a9 = none ↔ ai = none) := ha
  have V9 : Hid (Below w.heap.size w w9) := bt V8.out hb
  clear ha hb hr
  go_wp2_with fail
  refine (cloneList_any ad n cd A L C D w9 z3.out (r3.out.later V9.out) l1 (fun j hj => ⟨(rd.out j hj).1, L7.out j hj, (rd.out j hj).2.2.later V9.out⟩)).mono ?_
  rintro e w10 ⟨a10, G10, ha, rfl, hb, hr, hx⟩
  have B10 : Hid (Below w9.heap.size w9 w10) := hb
  have Y10 : Hid (RowAt w10 (fun j => .slice (G10 j) (L j) (L j)) n a10) := hr
  have X10 : Hid (∀ j, j < n → RowAt w10 (fun t => .int .u8 (D j t)) (L j) (G10 j)) := hx
  have N10 : Hid (a10 = none ↔ ad = none) := ha
  have V10 : Hid (Below w.heap.size w w10) := bt V9.out hb
  clear ha hb hr hx
  go_wp2_with fail
  refine (cloneStr_any bn m dn S' w10 z4.out (q1.out.later V10.out) l4).mono ?_
  rintro e w11 ⟨a11, ha, rfl, hb, hr⟩
  have B11 : Hid (Below w10.heap.size w10 w11) := hb
  have Y11 : Hid (RowAt w11 (fun j => .string (S' j)) m a11) := hr
  have N11 : Hid (a11 = none ↔ bn = none) := ha
  have V11 : Hid (Below w.heap.size w w11) := bt V10.out hb
  clear ha hb hr
  go_wp2_with fail
  refine (cloneWrd_any bi m di I' w11 z5.out (q2.out.later V11.out) l4).mono ?_
  rintro e w12 ⟨a12, ha, rfl, hb, hr⟩
  have B12 : Hid (Below w11.heap.size w11 w12) := hb
  have Y12 : Hid (RowAt w12 (fun j => .int .u64 (I' j)) m a12) := hr
  have N12 : Hid (a12 = none ↔ bi = none) := ha
  have V12 : Hid (Below w.heap.size w w12) := bt V11.out hb
  clear ha hb hr
  go_wp2_with fail
  refine (cloneList_any bd m dd A' L' C' D' w12 z6.out (q3.out.later V12.out) l4 (fun j hj => ⟨(qd.out j hj).1, L8.out j hj, (qd.out j hj).2.2.later V12.out⟩)).mono ?_
  rintro e w13 ⟨a13, G13, ha, rfl, hb, hr, hx⟩
  have B13 : Hid (Below w12.heap.size w12 w13) := hb
  have Y13 : Hid (RowAt w13 (fun j => .slice (G13 j) (L' j) (L' j)) m a13) := hr
  have X13 : Hid (∀ j, j < m → RowAt w13 (fun t => .int .u8 (D' j t)) (L' j) (G13 j)) := hx
  have N13 : Hid (a13 = none ↔ bd = none) := ha
  have V13 : Hid (Below w.heap.size w w13) := bt V12.out hb
  clear ha hb hr hx
  go_wp2_with fail
  refine (reader_any w13 S I G10 L L n a8 a9 a10 n n n S' I' G13 L' L' m a11 a12 a13 m m m u ct tk (fun h => ⟨(z1.out (N8.out.1 h)).1, (z1.out (N8.out.1 h)).1⟩) l1 (fun h => ⟨(z4.out (N11.out.1 h)).1, (z4.out (N11.out.1 h)).1⟩) l4 (Y8.out.later (bt (bt (bt (bt B9.out B10.out) B11.out) B12.out) B13.out)) (Y9.out.later (bt (bt (bt B10.out B11.out) B12.out) B13.out)) (Y10.out.later (bt (bt B11.out B12.out) B13.out)) (Y11.out.later (bt B12.out B13.out)) (Y12.out.later B13.out) Y13).mono ?_
  rintro e w14 ⟨R14, c14, p14, s14, rfl, h1, h2, hb, hk⟩
  have B14 : Hid (Below w13.heap.size w13 w14) := hb
  have V14 : Hid (Below w.heap.size w w14) := bt V13.out hb
  have K14 : Hid (w13.heap.size ≤ R14 ∧ w13.heap.size ≤ c14 ∧ ReaderAt S I G10 L L n a8 S' I' G13 L' L' m a11 u ct tk R14 c14 p14 s14 w14) := ⟨h1, h2, hk⟩
  clear h1 h2 hb hk
  go_wp2_with fail
  refine (chan_any w14).mono ?_
  rintro e w15 ⟨rfl, hb, hl, hf, hs⟩
  have B15 : Hid (Below w14.heap.size w14 w15) := hb
  obtain ⟨d, hd⟩ : ∃ d : Dat, d = { w := w, n := n, m := m, S := S, I := I, L := L, G := G3, D := D, S' := S', I' := I', L' := L', G' := G6, D' := D', R1 := R7, R2 := R14, CB := w14.heap.size, c := c7, pa := p7, ra := s7, ct := ct, tk := tk } := ⟨_, rfl⟩
  have Q15 : Hid (St d u u w15) := by
    have T := (bt (bt (bt (bt (bt (bt (bt B8.out B9.out) B10.out) B11.out) B12.out) B13.out) B14.out) B15.out)
    have k7 := K7.out
    have k14 := K14.out
    have y1 : R7 < w7.heap.size := World.block_lt_of_cell? w7 _ k7.2.2.c4
    have y2 : R14 < w14.heap.size := World.block_lt_of_cell? w14 _ k14.2.2.c4
    obtain ⟨s0, hs0⟩ := k7.2.2.ch
    have y3 : c7 < w7.heap.size := (Array.getElem?_eq_some_iff.1 hs0).1
    have y4 := ((bt (bt (bt (bt (bt (bt B8.out B9.out) B10.out) B11.out) B12.out) B13.out) B14.out) : Below w7.heap.size w7 w14).size
    have y5 := ((bt (bt (bt (bt (bt B8.out B9.out) B10.out) B11.out) B12.out) B13.out) : Below w7.heap.size w7 w13).size
    have y6 := V6.out.size
    have y7 := V13.out.size
    have y8 := V14.out.size
    have y9 := k14.1
    have y10 := k7.1
    subst hd
    exact ⟨bt V14.out hb, by show w.heap.size ≤ R7; omega, by show w.heap.size ≤ R14; omega, y8, by show w14.heap.size ≠ R7; omega, by show w14.heap.size ≠ R14; omega, by show R7 ≠ R14; omega, by show c7 ≠ w14.heap.size; omega, by show c7 ≠ R14; omega,
      hl, hf, ⟨s0, (T.block _ y3).trans hs0⟩, cell_later T k7.2.2.c0, cell_later T k7.2.2.c2, cell_later T k7.2.2.c3, cell_later T k7.2.2.c4, cell_later T k7.2.2.c5, frozen_later T k7.2.2.c4 k7.2.2.f4,
      cell_later hb k14.2.2.c4, frozen_later hb k14.2.2.c4 k14.2.2.f4, k7.2.2.pe.later T, k7.2.2.re.later T, fun j hj => (X3.out j hj).later (bt (bt (bt (bt (bt (bt (bt (bt (bt (bt (bt B4.out B5.out) B6.out) B7.out) B8.out) B9.out) B10.out) B11.out) B12.out) B13.out) B14.out) B15.out), fun j hj => (X6.out j hj).later (bt (bt (bt (bt (bt (bt (bt (bt B7.out B8.out) B9.out) B10.out) B11.out) B12.out) B13.out) B14.out) B15.out)⟩
  have P7 : Hid (p7.isNone = an.isNone ∧ s7.isNone = bn.isNone) := ⟨none_isNone (K7.out.2.2.pn.trans N1.out), none_isNone (K7.out.2.2.rn.trans N4.out)⟩
  have HD : Hid (d = { w := w, n := n, m := m, S := S, I := I, L := L, G := G3, D := D, S' := S', I' := I', L' := L', G' := G6, D' := D', R1 := R7, R2 := R14, CB := w14.heap.size, c := c7, pa := p7, ra := s7, ct := ct, tk := tk }) := hd
  have D1 : Hid (d.R1 = R7 ∧ d.R2 = R14 ∧ d.CB = w14.heap.size ∧ d.c = c7 ∧ d.w = w) := by subst hd; exact ⟨rfl, rfl, rfl, rfl, rfl⟩
  clear hb hl hf hs hd
  clear B1 V1 B2 V2 B3 V3 B4 V4 B5 V5 B6 V6 B7 V7 B8 V8 B9 V9 B10 V10 B11 V11 B12 V12 B13 V13 B14 V14 B15 Y1 N1 Y2 N2 Y3 N3 Y4 N4 Y5 N5 Y6 N6 Y8 N8 Y9 N9 Y10 N10 Y11 N11 Y12 N12 Y13 N13 X3 X6 X10 X13 K7 K14
  go_wp2_with fail
  refine (zzsent_any w14.heap.size R7 u a w15 (by have h := Q15.out.n1; have k := HD.out; subst k; exact h) (by have h := Q15.out.lock; have k := HD.out; subst k; exact h) (by have h := Q15.out.lf; have k := HD.out; subst k; exact h) (by have h := Q15.out.c4; have k := HD.out; subst k; exact h) (by have h := Q15.out.f4; have k := HD.out; subst k; exact h)).mono ?_
  rintro e w16 ⟨rfl, hw⟩
  have Q16 : Hid (St d (wrap64 (u - a)) u w16) := by
    have k := HD.out
    have q := Q15.out.sent1 (wrap64 (u - a))
    subst k
    rw [hw]
    exact q
  clear hw Q15
  go_wp2_with fail
  refine (zzsent_any w14.heap.size R7 (wrap64 (u - a)) b w16 (by have h := Q16.out.n1; have k := HD.out; subst k; exact h) (by have h := Q16.out.lock; have k := HD.out; subst k; exact h) (by have h := Q16.out.lf; have k := HD.out; subst k; exact h) (by have h := Q16.out.c4; have k := HD.out; subst k; exact h) (by have h := Q16.out.f4; have k := HD.out; subst k; exact h)).mono ?_
  rintro e w17 ⟨rfl, hw⟩
  have Q17 : Hid (St d (wrap64 (wrap64 (u - a) - b)) u w17) := by
    have k := HD.out
    have q := Q16.out.sent1 (wrap64 (wrap64 (u - a) - b))
    subst k
    rw [hw]
    exact q
  clear hw Q16
  go_wp2_with fail
  refine (zzsent_any w14.heap.size R14 u (wrap64 (a + b)) w17 (by have h := Q17.out.n2; have k := HD.out; subst k; exact h) (by have h := Q17.out.lock; have k := HD.out; subst k; exact h) (by have h := Q17.out.lf; have k := HD.out; subst k; exact h) (by have h := Q17.out.d4; have k := HD.out; subst k; exact h) (by have h := Q17.out.e4; have k := HD.out; subst k; exact h)).mono ?_
  rintro e w18 ⟨rfl, hw⟩
  have Q18 : Hid (St d (wrap64 (wrap64 (u - a) - b)) (wrap64 (u - wrap64 (a + b))) w18) := by
    have k := HD.out
    have q := Q17.out.sent2 (wrap64 (u - wrap64 (a + b)))
    subst k
    rw [hw]
    exact q
  clear hw Q17
  have Q : Hid (St d (wrap64 (wrap64 (u - a) - b)) (wrap64 (wrap64 (u - a) - b)) w18) := by
    have q := Q18.out
    rw [wrap_sum] at q
    exact q
  clear Q18
  go_wp2_with fail
  refine (pending_any R7 p7 n 0 S I G3 L L w18 l1 (by have h := Q.out.c3; have k := HD.out; subst k; exact h) (by have h := Q.out.pe; have k := HD.out; subst k; exact h)).mono ?_
  rintro e w19 ⟨g1, g2, g3, he, hb, x1, x2, x3⟩
  rw [P7.out.1] at he
  subst he
  have Q19 : Hid (St d (wrap64 (wrap64 (u - a) - b)) (wrap64 (wrap64 (u - a) - b)) w19) := Q.out.later hb
  have X1 : Hid (RowAt w19 (fun j => .string (S j)) n g1 ∧ RowAt w19 (fun j => .int .u64 (I j)) n g2 ∧ RowAt w19 (fun j => .slice (G3 j) (L j) (L j)) n g3) := ⟨x1, x2, x3⟩
  clear hb x1 x2 x3 Q
  go_wp2_with fail
  refine (replay_any R7 s7 m 0 S' I' G6 L' L' w19 l4 (by have h := Q19.out.c2; have k := HD.out; subst k; exact h) (by have h := Q19.out.re; have k := HD.out; subst k; exact h)).mono ?_
  rintro e w20 ⟨k1, k2, k3, he, hb, x1, x2, x3⟩
  rw [P7.out.2] at he
  subst he
  have Q20 : Hid (St d (wrap64 (wrap64 (u - a) - b)) (wrap64 (wrap64 (u - a) - b)) w20) := Q19.out.later hb
  have X2 : Hid (RowAt w20 (fun j => .string (S j)) n g1 ∧ RowAt w20 (fun j => .int .u64 (I j)) n g2 ∧ RowAt w20 (fun j => .slice (G3 j) (L j) (L j)) n g3) := ⟨X1.out.1.later hb, X1.out.2.1.later hb, X1.out.2.2.later hb⟩
  have X3 : Hid (RowAt w20 (fun j => .string (S' j)) m k1 ∧ RowAt w20 (fun j => .int .u64 (I' j)) m k2 ∧ RowAt w20 (fun j => .slice (G6 j) (L' j) (L' j)) m k3) := ⟨x1, x2, x3⟩
  clear hb x1 x2 x3 Q19 X1
  go_wp2_with fail
  refine (unsent_any R7 (wrap64 (wrap64 (u - a) - b)) w20 (by have h := Q20.out.c4; have k := HD.out; subst k; exact h)).mono ?_
  rintro e w' ⟨rfl, hw⟩
  subst w'
  go_wp2_with fail
  refine (unsent_any R14 (wrap64 (wrap64 (u - a) - b)) w20 (by have h := Q20.out.d4; have k := HD.out; subst k; exact h)).mono ?_
  rintro e w' ⟨rfl, hw⟩
  subst w'
  go_wp2_with fail
  refine (cut_any R7 ct w20 (by have h := Q20.out.c5; have k := HD.out; subst k; exact h)).mono ?_
  rintro e w' ⟨rfl, hw⟩
  subst w'
  go_wp2_with fail
  refine (token_any R7 c7 tk w20 (by have h := Q20.out.c0; have k := HD.out; subst k; exact h) (by have h := Q20.out.ch; have k := HD.out; subst k; exact h)).mono ?_
  rintro e w' ⟨rfl, hw⟩
  subst w'
  go_wp2_with fail
  refine (are_any g1 g2 g3 an ai ad n n n n cn ci cd S I G3 A L L C D w20 l1 L7 X2.out.1 X2.out.2.1 X2.out.2.2 (by have h := Q20.out.pd; have k := HD.out; subst k; exact h) (r1.out.later (by have h := Q20.out.bel; have k := HD.out; subst k; exact h)) (r2.out.later (by have h := Q20.out.bel; have k := HD.out; subst k; exact h)) (r3.out.later (by have h := Q20.out.bel; have k := HD.out; subst k; exact h)) (fun j hj => (rd.out j hj).2.2.later (by have h := Q20.out.bel; have k := HD.out; subst k; exact h))).mono ?_
  rintro e w21 ⟨rfl, hb⟩
  have HB21 : Hid (Below w20.heap.size w20 w21) := hb
  have Q21 : Hid (St d (wrap64 (wrap64 (u - a) - b)) (wrap64 (wrap64 (u - a) - b)) w21) := Q20.out.later hb
  clear hb
  go_wp2_with fail
  refine (are_any k1 k2 k3 bn bi bd m m m m dn di dd S' I' G6 A' L' L' C' D' w21 l4 L8 (X3.out.1.later HB21.out) (X3.out.2.1.later HB21.out) (X3.out.2.2.later HB21.out) (by have h := Q21.out.rd; have k := HD.out; subst k; exact h) (q1.out.later (by have h := Q21.out.bel; have k := HD.out; subst k; exact h)) (q2.out.later (by have h := Q21.out.bel; have k := HD.out; subst k; exact h)) (q3.out.later (by have h := Q21.out.bel; have k := HD.out; subst k; exact h)) (fun j hj => (qd.out j hj).2.2.later (by have h := Q21.out.bel; have k := HD.out; subst k; exact h))).mono ?_
  rintro e w22 ⟨rfl, hb⟩
  have V22 : Hid (Below w.heap.size w w22) := bt (by have h := Q21.out.bel; have k := HD.out; subst k; exact h) hb
  clear hb
  go_wp2
  go_ret
  exact ⟨rfl, V22.out⟩
end Go.Proofs.Qxb6613968a.Ch
