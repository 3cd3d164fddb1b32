/-
  FnAtSymbolOnlyItsOwnTokensText: the walk.
-/
import Derived.Test.Qxb6614055aTokWalks
namespace Go.Proofs.Qxb6614055a.Tok
open Go.ChangeShapes Go.WideShapes Go.ChangeAt Go.RowKit

theorem bcell {W w1 : World} (hb : Below W.heap.size W w1) : (∀ b o, b < W.heap.size → w1.cell? ⟨b, o, none⟩ = W.cell? ⟨b, o, none⟩) :=
  fun b o h => hb.cell (p := ⟨b, o, none⟩) h

theorem beq_swap (a b : List UInt8) : (b == a) = (a == b) := by
  rw [Bool.eq_iff_iff, beq_iff_eq, beq_iff_eq]; exact eq_comm

/-- What the law's four questions read: the copied current token, the parser over all tokens, the parser over the one. -/
structure Facts (B P n p : Nat) (k a e : Int) (x : ByteArray) (V : World) : Prop where
  g0 : V.cell? ⟨B, 0, none⟩ = some (.int .u8 k)
  g1 : V.cell? ⟨B, 1, none⟩ = some (.string x)
  h1 : V.cell? ⟨P, 1, none⟩ = some (.slice (some ⟨B + 1, 0, none⟩) n n)
  h2 : V.cell? ⟨P, 2, none⟩ = some (.int .i64 (p : Nat))
  t0 : V.cell? ⟨B + 1, p * 4, none⟩ = some (.int .u8 k)
  t1 : V.cell? ⟨B + 1, p * 4 + 1, none⟩ = some (.string x)
  t2 : V.cell? ⟨B + 1, p * 4 + 2, none⟩ = some (.int .i64 a)
  t3 : V.cell? ⟨B + 1, p * 4 + 3, none⟩ = some (.int .i64 e)
  i1 : V.cell? ⟨P + 1 + 1 + 1, 1, none⟩ = some (.slice (some ⟨P + 1 + 1, 0, none⟩) 1 1)
  i2 : V.cell? ⟨P + 1 + 1 + 1, 2, none⟩ = some (.int .i64 (0 : Nat))
  s0 : V.cell? ⟨P + 1 + 1, 0 * 4, none⟩ = some (.int .u8 k)
  s1 : V.cell? ⟨P + 1 + 1, 0 * 4 + 1, none⟩ = some (.string x)
  s2 : V.cell? ⟨P + 1 + 1, 0 * 4 + 2, none⟩ = some (.int .i64 a)
  s3 : V.cell? ⟨P + 1 + 1, 0 * 4 + 3, none⟩ = some (.int .i64 e)

theorem Facts.later {B P n p : Nat} {k a e : Int} {x : ByteArray} {V V' : World} (F : Facts B P n p k a e x V) (hb : Below V.heap.size V V') : Facts B P n p k a e x V' :=
  ⟨cell_later hb F.g0, cell_later hb F.g1, cell_later hb F.h1, cell_later hb F.h2, cell_later hb F.t0, cell_later hb F.t1, cell_later hb F.t2, cell_later hb F.t3, cell_later hb F.i1, cell_later hb F.i2, cell_later hb F.s0, cell_later hb F.s1, cell_later hb F.s2, cell_later hb F.s3⟩

theorem cell_alloc {V : World} {ad : Addr} {v : Value} (h : V.cell? ad = some v) (o : Obj) : (V.alloc o).cell? ad = some v :=
  (World.cell?_alloc_lt _ _ _ (World.block_lt_of_cell? _ _ h)).trans h

theorem facts_start (B n p : Nat) (k a e : Int) (x : ByteArray) (w1 : World)
    (t0 : w1.cell? ⟨B + 1, p * 4, none⟩ = some (.int .u8 k)) (t1 : w1.cell? ⟨B + 1, p * 4 + 1, none⟩ = some (.string x)) (t2 : w1.cell? ⟨B + 1, p * 4 + 2, none⟩ = some (.int .i64 a)) (t3 : w1.cell? ⟨B + 1, p * 4 + 3, none⟩ = some (.int .i64 e))
    (q0 : w1.cell? ⟨B, 0, none⟩ = some (.int .u8 k)) (q1 : w1.cell? ⟨B, 1, none⟩ = some (.string x)) :
    Facts B w1.heap.size n p k a e x ((((w1.alloc (.cells #[.string { data := #[] }, .slice (some ⟨B + 1, 0, none⟩) n n, .int .i64 (p : Nat), .int .i64 0, .int .i64 0] 61)).alloc (.cells #[.int .u8 k, .string x, .int .i64 a, .int .i64 e] 45)).alloc
      (.cells #[.int .u8 k, .string x, .int .i64 a, .int .i64 e] 45)).alloc (.cells #[.string { data := #[] }, .slice (some ⟨w1.heap.size + 1 + 1, 0, none⟩) 1 1, .int .i64 0, .int .i64 0, .int .i64 0] 61)) := by
  refine ⟨cell_alloc (cell_alloc (cell_alloc (cell_alloc q0 _) _) _) _, cell_alloc (cell_alloc (cell_alloc (cell_alloc q1 _) _) _) _, cell_alloc (cell_alloc (cell_alloc (by simp) _) _) _, cell_alloc (cell_alloc (cell_alloc (by simp) _) _) _,
    cell_alloc (cell_alloc (cell_alloc (cell_alloc t0 _) _) _) _, cell_alloc (cell_alloc (cell_alloc (cell_alloc t1 _) _) _) _, cell_alloc (cell_alloc (cell_alloc (cell_alloc t2 _) _) _) _, cell_alloc (cell_alloc (cell_alloc (cell_alloc t3 _) _) _) _,
    ?_, ?_, cell_alloc ?_ _, cell_alloc ?_ _, cell_alloc ?_ _, cell_alloc ?_ _⟩
  all_goals (rw [World.cell?_alloc_at _ _ _ _ (by simp)]; rfl)

set_option maxHeartbeats 2000000 in
theorem main_some (b off n c : Nat) (pos : Int) (K A E : Nat → Int) (X : Nat → ByteArray) (s : ByteArray) (w : World) (hn0 : 0 < n)
    (hx : ∀ i, i < n → (X i).size ≤ 9223372036854775807) (hs : s.size ≤ 9223372036854775807) (hn : n ≤ 9223372036854775807)
    (c0 : ∀ i, i < n → w.cell? ⟨b, off + i * 4, none⟩ = some (.int .u8 (K i))) (c1 : ∀ i, i < n → w.cell? ⟨b, off + i * 4 + 1, none⟩ = some (.string (X i)))
    (c2 : ∀ i, i < n → w.cell? ⟨b, off + i * 4 + 2, none⟩ = some (.int .i64 (A i))) (c3 : ∀ i, i < n → w.cell? ⟨b, off + i * 4 + 3, none⟩ = some (.int .i64 (E i))) :
    Calls Try.prog 5 #[.slice (some ⟨b, off, none⟩) n c, .int .i64 pos, .string s] w fun e w' => e = .returned (.bool true) ∧ Below w.heap.size w w' := by
  have hbs : b < w.heap.size := World.block_lt_of_cell? w _ (c0 0 hn0)
  go_enter Try.func5, Try.ntmps5
  go_wp2_with fail
  refine (bytes_any b off n c pos X s w c1 hx hs hn).mono ?_
  rintro e w' ⟨r, rfl, rfl, hr⟩
  have HC : Hid ((∀ i, i < n → w'.cell? ⟨b, off + i * 4, none⟩ = some (.int .u8 (K i))) ∧ (∀ i, i < n → w'.cell? ⟨b, off + i * 4 + 1, none⟩ = some (.string (X i))) ∧
    (∀ i, i < n → w'.cell? ⟨b, off + i * 4 + 2, none⟩ = some (.int .i64 (A i))) ∧ (∀ i, i < n → w'.cell? ⟨b, off + i * 4 + 3, none⟩ = some (.int .i64 (E i)))) := ⟨c0, c1, c2, c3⟩
  clear hx c0 c1 c2 c3
  cases r
  · clear hr
    go_wp2
    go_ret
    exact ⟨rfl, Below.refl _ _⟩
  have HX : Hid (∀ i, i < n → (X i).size ≤ 1048576) := hr rfl
  clear hr
  by_cases hl : 65536 < n
  · go_wp2
    go_ret
    exact ⟨rfl, Below.refl _ _⟩
  by_cases hl2 : 1048576 < s.size
  · have hd : decide ((65536 : Int) < (n : Int)) = false := by simp; omega
    go_wp2
    go_ret
    exact ⟨rfl, Below.refl _ _⟩
  have hd : decide ((65536 : Int) < (n : Int)) = false := by simp; omega
  go_wp2
  go_loop [7, 8] (fun z i => ∃ k y : Nat, k ≤ n ∧ y ≤ 1048576 ∧ i = .int .i64 k ∧ z = .int .i64 y) (fun _ i => n - (intOf i).toNat)
  case atStart => exact ⟨0, s.size, Nat.zero_le _, by omega, rfl, rfl⟩
  case round =>
    obtain ⟨k, y, hk, hy, rfl, rfl⟩ := hrel
    by_cases hlt : k < n
    · have e1 := HC.out.2.1 k hlt
      have hxk := HX.out k hlt
      by_cases hc : 1048576 < y + (40 + (X k).size)
      · go_wp2
        go_ret
        exact ⟨rfl, Below.refl _ _⟩
      · go_wp2
        go_round
        case rel => exact ⟨k + 1, y + (40 + (X k).size), by omega, by omega, by go_num, by go_num⟩
        case measure => simp [intOf]; omega
    · by_cases hp0 : pos < 0
      · go_wp2
        go_ret
        exact ⟨rfl, Below.refl _ _⟩
      by_cases hp1 : (n : Int) ≤ pos
      · have hd2 : decide (pos < 0) = false := by simp; omega
        go_wp2
        go_ret
        exact ⟨rfl, Below.refl _ _⟩
      have hd2 : decide (pos < 0) = false := by simp; omega
      obtain ⟨p, hp⟩ : ∃ p : Nat, pos = (p : Int) := ⟨pos.toNat, by omega⟩
      subst hp
      have hpn : p < n := by omega
      have d0 := HC.out.1 p hpn
      have d1 := HC.out.2.1 p hpn
      have d2 := HC.out.2.2.1 p hpn
      have d3 := HC.out.2.2.2 p hpn
      go_wp2_with fail
      refine (toks_any b off n c p K A E X _ (w'.heap.size + 1) (by simp) (by omega) hpn (fun i hi => (World.cell?_alloc_past _ _ _ hbs).trans (HC.out.1 i hi)) (fun i hi => (World.cell?_alloc_past _ _ _ hbs).trans (HC.out.2.1 i hi))
        (fun i hi => (World.cell?_alloc_past _ _ _ hbs).trans (HC.out.2.2.1 i hi)) (fun i hi => (World.cell?_alloc_past _ _ _ hbs).trans (HC.out.2.2.2 i hi))).mono ?_
      rintro e w1 ⟨rfl, hb1, t0, t1, t2, t3⟩
      have q0 : w1.cell? ⟨w'.heap.size, 0, none⟩ = some (.int .u8 (K p)) := cell_later hb1 (by simp)
      have q1 : w1.cell? ⟨w'.heap.size, 1, none⟩ = some (.string (X p)) := cell_later hb1 (by simp)
      have q2 : w1.cell? ⟨w'.heap.size, 2, none⟩ = some (.int .i64 (A p)) := cell_later hb1 (by simp)
      have q3 : w1.cell? ⟨w'.heap.size, 3, none⟩ = some (.int .i64 (E p)) := cell_later hb1 (by simp)
      have z1 : w'.heap.size + 1 < w1.heap.size := World.block_lt_of_cell? w1 _ t0
      have z0 : w'.heap.size < w1.heap.size := by omega
      have HB1 : Hid (Below w'.heap.size w' w1) := ((Below.refl _ _).alloc (Nat.le_refl _) _).trans (hb1.mono (by simp))
      clear hb1 d0 d1 d2 d3 HX HC
      go_wp2_with fail
      refine (newParser _ _ _ _ _).mono ?_
      rintro e w2 ⟨rfl, rfl⟩
      go_wp2_with fail
      refine (newTok _ _ _ _ _).mono ?_
      rintro e w2 ⟨rfl, rfl⟩
      go_wp2_with fail
      refine (newParser _ _ _ _ _).mono ?_
      rintro e w2 ⟨rfl, rfl⟩
      go_wp2_with fail
      have F := facts_start w'.heap.size n p (K p) (A p) (E p) (X p) w1 t0 t1 t2 t3 q0 q1
      have HB2 : Hid (Below w'.heap.size w' _) := (((((HB1.out.alloc (by omega) (.cells #[.string { data := #[] }, .slice (some ⟨w'.heap.size + 1, 0, none⟩) n n, .int .i64 (p : Nat), .int .i64 0, .int .i64 0] 61)).alloc (by simp; omega) (.cells #[.int .u8 (K p), .string (X p), .int .i64 (A p), .int .i64 (E p)] 45)).alloc (by simp; omega)
        (.cells #[.int .u8 (K p), .string (X p), .int .i64 (A p), .int .i64 (E p)] 45)).alloc (by simp; omega) (.cells #[.string { data := #[] }, .slice (some ⟨w1.heap.size + 1 + 1, 0, none⟩) 1 1, .int .i64 0, .int .i64 0, .int .i64 0] 61)))
      refine (atSymbol_any _ _ n n p _ _ _ _ _ _ hpn F.h1 F.h2 F.t0 F.t1 F.t2 F.t3).mono ?_
      rintro e w2 ⟨rfl, hb2⟩
      have F2 := F.later hb2
      have HB3 : Hid (Below w'.heap.size w' w2) := HB2.out.trans (hb2.mono (by have := HB2.out.size; omega))
      clear HB2 F hb2 t0 t1 t2 t3 q0 q1 q2 q3
      obtain ⟨P, hP⟩ : ∃ P, P = w1.heap.size := ⟨_, rfl⟩
      rw [← hP] at F2 ⊢
      have HF : Hid (Facts w'.heap.size P n p (K p) (A p) (E p) (X p) w2) := F2
      have g0 := F2.g0
      have g1 := F2.g1
      clear F2 HB1 hP z1 z0
      go_wp2_with fail
      have hxx : ((X p).toList == (X p).toList) = true := by simp
      have hst : (s.toList == (X p).toList) = ((X p).toList == s.toList) := beq_swap _ _
      cases hq : (K p == 6) <;> cases ht : ((X p).toList == s.toList)
      all_goals
        rw [ht] at hst
        refine (atSymbol_any _ _ n n p _ _ _ _ _ _ hpn HF.out.h1 HF.out.h2 HF.out.t0 HF.out.t1 HF.out.t2 HF.out.t3).mono ?_
        rintro e w3 ⟨rfl, hb3⟩
        rw [hq, hxx]
        have HF3 : Hid (Facts w'.heap.size P n p (K p) (A p) (E p) (X p) w3) := HF.out.later hb3
        have HB4 : Hid (Below w'.heap.size w' w3) := HB3.out.trans (hb3.mono (by have := HB3.out.size; omega))
        have k0 := HF3.out.g0
        have k1 := HF3.out.g1
        clear hb3 g0 g1
        go_wp2_with fail
        refine (atSymbol_any _ _ 1 1 0 _ _ _ _ _ _ (by omega) HF3.out.i1 HF3.out.i2 HF3.out.s0 HF3.out.s1 HF3.out.s2 HF3.out.s3).mono ?_
        rintro e w4 ⟨rfl, hb4⟩
        rw [hq, ht]
        have HF4 : Hid (Facts w'.heap.size P n p (K p) (A p) (E p) (X p) w4) := HF3.out.later hb4
        have HB5 : Hid (Below w'.heap.size w' w4) := HB4.out.trans (hb4.mono (by have := HB4.out.size; omega))
        have l0 := HF4.out.g0
        have l1 := HF4.out.g1
        clear hb4 k0 k1
        go_wp2_with fail
        refine (atSymbol_any _ _ 1 1 0 _ _ _ _ _ _ (by omega) HF4.out.i1 HF4.out.i2 HF4.out.s0 HF4.out.s1 HF4.out.s2 HF4.out.s3).mono ?_
        rintro e w5 ⟨rfl, hb5⟩
        rw [hq, hxx]
        have HF5 : Hid (Facts w'.heap.size P n p (K p) (A p) (E p) (X p) w5) := HF4.out.later hb5
        have HB6 : Hid (Below w'.heap.size w' w5) := HB5.out.trans (hb5.mono (by have := HB5.out.size; omega))
        have m0 := HF5.out.g0
        have m1 := HF5.out.g1
        clear hb5 l0 l1
        go_wp2
        go_ret
        exact ⟨rfl, HB6.out⟩

/-- zzBytes at no token: whether s is at most 1<<20 bytes long. -/
theorem bytes_none (ao : Option Addr) (c : Nat) (pos : Int) (s : ByteArray) (w : World) (hs : s.size ≤ 9223372036854775807) :
    Calls Try.prog 15 #[.slice ao 0 c, .int .i64 pos, .string s] w fun e w' => e = .returned (.bool (decide (s.size ≤ 1048576))) ∧ w' = w := by
  by_cases h : 1048576 < s.size
  · have hd : decide (s.size ≤ 1048576) = false := by simp; omega
    rw [hd]
    go_enter Try.func15, Try.ntmps15
    go_wp2
    refine wp_loop_rounds 1 ?_
    rw [rounds_succ]
    go_wp2
    go_ret
    exact ⟨rfl, rfl⟩
  · have hd : decide (s.size ≤ 1048576) = true := by simp; omega
    rw [hd]
    go_enter Try.func15, Try.ntmps15
    go_wp2
    refine wp_loop_rounds 1 ?_
    rw [rounds_succ]
    go_wp2
    go_ret
    exact ⟨rfl, rfl⟩

/-- The law at no token: true. -/
theorem main_none (ao : Option Addr) (c : Nat) (pos : Int) (s : ByteArray) (w : World) (hs : s.size ≤ 9223372036854775807) :
    Calls Try.prog 5 #[.slice ao 0 c, .int .i64 pos, .string s] w fun e w' => e = .returned (.bool true) ∧ Below w.heap.size w w' := by
  go_enter Try.func5, Try.ntmps5
  go_wp2_with fail
  refine (bytes_none ao c pos s w hs).mono ?_
  rintro e w' ⟨rfl, rfl⟩
  by_cases h : 1048576 < s.size
  · have hd : decide (s.size ≤ 1048576) = false := by simp; omega
    rw [hd]
    go_wp2
    go_ret
    exact ⟨rfl, Below.refl _ _⟩
  · have hd : decide (s.size ≤ 1048576) = true := by simp; omega
    rw [hd]
    clear hd
    go_wp2
    refine wp_loop_rounds 1 ?_
    rw [rounds_succ]
    by_cases hp : pos < 0
    · go_wp2
      go_ret
      exact ⟨rfl, Below.refl _ _⟩
    · have hd2 : decide (pos < 0) = false := by simp; omega
      have hd3 : (0 : Int) ≤ pos := by omega
      go_wp2
      go_ret
      exact ⟨rfl, Below.refl _ _⟩
end Go.Proofs.Qxb6614055a.Tok
