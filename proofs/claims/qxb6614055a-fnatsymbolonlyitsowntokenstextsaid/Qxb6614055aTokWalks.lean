/-
  The callees of FnAtSymbolOnlyItsOwnTokensText, each by a contract.
-/
import Derived.Test.Qxb6614055aRows
import Derived.WalkKit
import Derived.WalkLawsBesides
import Derived.WalkSpells
import Derived.ProofKit
import Derived.OpenShut
import Derived.ShutString
import Derived.Deep.RegionHeld3
import Derived.Deep.QuietTactic
import Derived.BigQuiet
namespace Go.Proofs.Qxb6614055a.Tok
open Go.ChangeShapes Go.WideShapes Go.ChangeAt Go.RowKit
theorem Try.info45 : (Try.prog.info? 45).map (fun i => (i.zero, i.size, i.bytes)) = some (some (.agg #[.int .u8 0, .string { data := #[] }, .int .i64 0, .int .i64 0]), 4, 40) := by kernel_rfl
/-- ZZnewToken -/
theorem newTok (k a n : Int) (x : ByteArray) (w : World) :
    Calls Try.prog 18 #[.int .u8 k, .string x, .int .i64 a, .int .i64 n] w fun e w' => e = .returned (.agg #[.int .u8 k, .string x, .int .i64 a, .int .i64 n]) ∧ w' = w.alloc (.cells #[.int .u8 k, .string x, .int .i64 a, .int .i64 n] 45) := by
  go_enter Try.func18, Try.ntmps18
  go_wp2
  exact bodyPost_ret (v := .agg #[.int .u8 k, .string x, .int .i64 a, .int .i64 n]) (by simp [results, Try.results18, go_sem]) rfl ⟨rfl, rfl⟩

/-- What one round of zzToks does to the world. -/
theorem tok_step {w wr : World} {B k n pos : Nat} {v0 v1 v2 v3 : Value} {R : List Value} (o : Obj) (hB : B = w.heap.size) (hl : R.length = 4) (hlt : k < n) (hbl : Below B w wr) (hth : wr.there B 0 (n * 4)) (hrg : pos < k → wr.rangeAt B (pos * 4) R) (hk : pos = k → R = [v0, v1, v2, v3]) :
    Below B w (((((wr.setCell ⟨B, k * 4, none⟩ v0).setCell ⟨B, k * 4 + 1, none⟩ v1).setCell ⟨B, k * 4 + 2, none⟩ v2).setCell ⟨B, k * 4 + 3, none⟩ v3).alloc o).drew ∧
    (((((wr.setCell ⟨B, k * 4, none⟩ v0).setCell ⟨B, k * 4 + 1, none⟩ v1).setCell ⟨B, k * 4 + 2, none⟩ v2).setCell ⟨B, k * 4 + 3, none⟩ v3).alloc o).drew.there B 0 (n * 4) ∧
    (pos < k + 1 → (((((wr.setCell ⟨B, k * 4, none⟩ v0).setCell ⟨B, k * 4 + 1, none⟩ v1).setCell ⟨B, k * 4 + 2, none⟩ v2).setCell ⟨B, k * 4 + 3, none⟩ v3).alloc o).drew.rangeAt B (pos * 4) R) := by
  have e : (((wr.setCell ⟨B, k * 4, none⟩ v0).setCell ⟨B, k * 4 + 1, none⟩ v1).setCell ⟨B, k * 4 + 2, none⟩ v2).setCell ⟨B, k * 4 + 3, none⟩ v3 = wr.setCells B (k * 4) [v0, v1, v2, v3] := rfl
  refine ⟨?_, ?_, fun hp => ?_⟩
  · exact ((((((hbl.setCell (by simp) _).setCell (by simp) _).setCell (by simp) _).setCell (by simp) _).alloc (by have := hbl.size; simp; omega) _).drew)
  · rw [e, World.there_drew]
    exact World.there_alloc (World.there_setCells hth _ _ _) _
  · rw [e, World.rangeAt_drew]
    refine World.rangeAt_alloc ?_ _
    by_cases h : pos = k
    · rw [hk h, h]
      exact World.rangeAt_setCells_same wr B (k * 4) _ (fun j hj => by have := hth (k * 4 + j) (by simp at hj; omega); simpa using this)
    · exact World.rangeAt_setCells_apart (hrg (by omega)) _ _ _ (by simp; omega)

set_option maxHeartbeats 1000000 in
theorem toks_any (b off n c pos : Nat) (K A E : Nat → Int) (X : Nat → ByteArray) (w : World) (B : Nat) (hB : w.heap.size = B) (hn : n ≤ 65536) (hp : pos < n)
    (c0 : ∀ i, i < n → w.cell? ⟨b, off + i * 4, none⟩ = some (.int .u8 (K i))) (c1 : ∀ i, i < n → w.cell? ⟨b, off + i * 4 + 1, none⟩ = some (.string (X i)))
    (c2 : ∀ i, i < n → w.cell? ⟨b, off + i * 4 + 2, none⟩ = some (.int .i64 (A i))) (c3 : ∀ i, i < n → w.cell? ⟨b, off + i * 4 + 3, none⟩ = some (.int .i64 (E i))) :
    Calls Try.prog 17 #[.slice (some ⟨b, off, none⟩) n c] w fun e w' => e = .returned (.slice (some ⟨B, 0, none⟩) n n) ∧ Below w.heap.size w w' ∧
      w'.cell? ⟨B, pos * 4, none⟩ = some (.int .u8 (K pos)) ∧ w'.cell? ⟨B, pos * 4 + 1, none⟩ = some (.string (X pos)) ∧
      w'.cell? ⟨B, pos * 4 + 2, none⟩ = some (.int .i64 (A pos)) ∧ w'.cell? ⟨B, pos * 4 + 3, none⟩ = some (.int .i64 (E pos)) := by
  subst hB
  obtain ⟨i0, hi, hz0, hz1, hz2⟩ := info_parts Try.info45
  have hbs : b < w.heap.size := World.block_lt_of_cell? w _ (c0 pos hp)
  go_enter Try.func17, Try.ntmps17
  go_wp2_with (at_make; refine wpList_make_full _ rfl (.tmp 6) (.tmp 6) 41 rfl w.heap.size 45 i0 _ 4 Try.underlying41 hi hz0 hz1 .i64 .i64 _ _ n rfl rfl rfl rfl (by rw [hz2]; omega) (by unfold maxLen; omega) (Nat.le_refl _) ?_; intro w1 hown hgrow)
  go_loopw [4] (fun i wr => ∃ k : Nat, k ≤ n ∧ i = .int .i64 k ∧ Below w.heap.size w wr ∧ wr.there w.heap.size 0 (n * 4) ∧
      (pos < k → wr.rangeAt w.heap.size (pos * 4) [.int .u8 (K pos), .string (X pos), .int .i64 (A pos), .int .i64 (E pos)])) (fun i _ => n - (intOf i).toNat)
  case atStart =>
    refine ⟨0, Nat.zero_le _, rfl, (Below.refl _ _).grown hgrow (Nat.le_refl _) (by simp), fun j hj => ?_, fun h => absurd h (Nat.not_lt_zero _)⟩
    rw [Nat.zero_add]
    refine ⟨?_, hown.frozenAt j⟩
    rw [hown.cellAt j hj]
    have := hown.1
    simp [List.getElem?_eq_getElem (show j < _ from by rw [this]; exact hj)]
  case round =>
    obtain ⟨k, hk, rfl, hbl, hth, hrg⟩ := hrel
    by_cases hlt : k < n
    · have e0 : wr.cell? ⟨b, off + k * 4, none⟩ = some (.int .u8 (K k)) := (hbl.cell (by exact hbs)).trans (c0 k hlt)
      have e1 : wr.cell? ⟨b, off + k * 4 + 1, none⟩ = some (.string (X k)) := (hbl.cell (by exact hbs)).trans (c1 k hlt)
      have e2 : wr.cell? ⟨b, off + k * 4 + 2, none⟩ = some (.int .i64 (A k)) := (hbl.cell (by exact hbs)).trans (c2 k hlt)
      have e3 : wr.cell? ⟨b, off + k * 4 + 3, none⟩ = some (.int .i64 (E k)) := (hbl.cell (by exact hbs)).trans (c3 k hlt)
      have b0 : (0 : Int) ≤ (k : Int) := by omega
      have b1 : (k : Int) < (n : Int) := by omega
      obtain ⟨⟨s0, f0⟩, ⟨s1, f1⟩, ⟨s2, f2⟩, s3, f3⟩ := (⟨hth (k * 4) (by omega), hth (k * 4 + 1) (by omega), hth (k * 4 + 2) (by omega), hth (k * 4 + 3) (by omega)⟩ : _ ∧ _ ∧ _ ∧ _)
      simp only [Nat.zero_add] at s0 s1 s2 s3 f0 f1 f2 f3
      obtain ⟨u0, s0⟩ := Option.isSome_iff_exists.1 s0
      obtain ⟨u1, s1⟩ := Option.isSome_iff_exists.1 s1
      obtain ⟨u2, s2⟩ := Option.isSome_iff_exists.1 s2
      obtain ⟨u3, s3⟩ := Option.isSome_iff_exists.1 s3
      have hsz : w.heap.size < wr.heap.size := World.block_lt_of_cell? wr _ s0
      have hbr : b < wr.heap.size := by omega
      have hne : w.heap.size ≠ b := by omega
      have H : Hid (Below w.heap.size w wr ∧ wr.there w.heap.size 0 (n * 4) ∧
      (pos < k → wr.rangeAt w.heap.size (pos * 4) [.int .u8 (K pos), .string (X pos), .int .i64 (A pos), .int .i64 (E pos)])) := ⟨hbl, hth, hrg⟩
      clear hbl hth hrg hown hgrow c0 c1 c2 c3
      go_wp2
      go_region_held3 (fun w' => w'.cell? ⟨b, off + k * 4, none⟩ = some (.int .u8 (K k)) ∧ w'.cell? ⟨b, off + k * 4 + 1, none⟩ = some (.string (X k)) ∧ w'.cell? ⟨b, off + k * 4 + 2, none⟩ = some (.int .i64 (A k)) ∧ w'.cell? ⟨b, off + k * 4 + 3, none⟩ = some (.int .i64 (E k))) (go_keep)
        (first | (go_at_call 18; refine (newTok _ _ _ _ _).mono ?_; rintro e w' ⟨rfl, rfl⟩))
      go_wp2
      go_roundw
      case rel =>
        obtain ⟨r1, r2, r3⟩ := tok_step (v0 := .int .u8 (K k)) (v1 := .string (X k)) (v2 := .int .i64 (A k)) (v3 := .int .i64 (E k)) (.cells #[.int .u8 (K k), .string (X k), .int .i64 (A k), .int .i64 (E k)] 45) rfl rfl hlt H.out.1 H.out.2.1 H.out.2.2 (fun h => by rw [h])
        exact ⟨k + 1, by omega, by go_num, r1, r2, r3⟩
      case measure => simp [intOf]; omega
    · have hk' : k = n := by omega
      have R := hrg (by omega)
      clear hrg
      go_wp2
      go_ret
      exact ⟨rfl, hbl, R 0 _ rfl, R 1 _ rfl, R 2 _ rfl, R 3 _ rfl⟩
/-- ZZnewParser -/
theorem newParser (v : Option Addr) (n c : Nat) (p : Int) (w : World) :
    Calls Try.prog 16 #[.slice v n c, .int .i64 p] w fun e w' => e = .returned (.pointer (some ⟨w.heap.size, 0, none⟩)) ∧
      w' = w.alloc (.cells #[.string { data := #[] }, .slice v n c, .int .i64 p, .int .i64 0, .int .i64 0] 61) := by
  go_enter Try.func16, Try.ntmps16
  go_wp2
  go_ret
  exact ⟨rfl, rfl⟩

/-- peek: the current token, copied. -/
theorem peek_any (pb tb n c : Nat) (pos : Nat) (k a m : Int) (x : ByteArray) (w : World) (hp : pos < n)
    (h1 : w.cell? ⟨pb, 1, none⟩ = some (.slice (some ⟨tb, 0, none⟩) n c)) (h2 : w.cell? ⟨pb, 2, none⟩ = some (.int .i64 pos))
    (t0 : w.cell? ⟨tb, pos * 4, none⟩ = some (.int .u8 k)) (t1 : w.cell? ⟨tb, pos * 4 + 1, none⟩ = some (.string x))
    (t2 : w.cell? ⟨tb, pos * 4 + 2, none⟩ = some (.int .i64 a)) (t3 : w.cell? ⟨tb, pos * 4 + 3, none⟩ = some (.int .i64 m)) :
    Calls Try.prog 30 #[.pointer (some ⟨pb, 0, none⟩)] w fun e w' => e = .returned (.agg #[.int .u8 k, .string x, .int .i64 a, .int .i64 m]) ∧ w' = (w.alloc (.cells #[.int .u8 k, .string x, .int .i64 a, .int .i64 m] 45)).drew := by
  have b0 : (0 : Int) ≤ (pos : Int) := by omega
  have b1 : (pos : Int) < (n : Int) := by omega
  have p1 : pb < w.heap.size := World.block_lt_of_cell? w _ h1
  have p2 : tb < w.heap.size := World.block_lt_of_cell? w _ t0
  go_enter Try.func30, Try.ntmps30
  go_wp2
  go_region
  go_wp2
  exact bodyPost_ret (v := .agg #[.int .u8 k, .string x, .int .i64 a, .int .i64 m]) (by simp [results, Try.results30, go_sem]) rfl ⟨rfl, rfl⟩

/-- ZZatSymbol: the current token is a symbol (kind 6) whose text is s. -/
theorem atSymbol_any (pb tb n c : Nat) (pos : Nat) (k a m : Int) (x s : ByteArray) (w : World) (hp : pos < n)
    (h1 : w.cell? ⟨pb, 1, none⟩ = some (.slice (some ⟨tb, 0, none⟩) n c)) (h2 : w.cell? ⟨pb, 2, none⟩ = some (.int .i64 pos))
    (t0 : w.cell? ⟨tb, pos * 4, none⟩ = some (.int .u8 k)) (t1 : w.cell? ⟨tb, pos * 4 + 1, none⟩ = some (.string x))
    (t2 : w.cell? ⟨tb, pos * 4 + 2, none⟩ = some (.int .i64 a)) (t3 : w.cell? ⟨tb, pos * 4 + 3, none⟩ = some (.int .i64 m)) :
    Calls Try.prog 19 #[.pointer (some ⟨pb, 0, none⟩), .string s] w fun e w' => e = .returned (.bool ((k == 6) && (x.toList == s.toList))) ∧ Below w.heap.size w w' := by
  cases hk : (k == 6)
  all_goals
    go_enter Try.func19, Try.ntmps19
    go_wp2_with (first | (go_at_call 27; go_in) | (go_at_call 30; refine (peek_any pb tb n c pos k a m x _ hp h1 h2 t0 t1 t2 t3).mono ?_; rintro e w' ⟨rfl, rfl⟩))
    go_ret
    exact ⟨rfl, ((((Below.refl _ _).alloc (Nat.le_refl _) _).alloc (by simp) _).drew)⟩

/-- What zzBytes answers: some bool, the world as it was; and where it is true every text is at most 1<<20 bytes long. -/
def BytesOut (n : Nat) (X : Nat → ByteArray) (w : World) (e : Ending) (w' : World) : Prop :=
  ∃ r : Bool, e = .returned (.bool r) ∧ w' = w ∧ (r = true → ∀ i, i < n → (X i).size ≤ 1048576)

set_option maxHeartbeats 1000000 in
/-- zzBytes: some bool; where it is true every text is at most 1<<20 bytes long. -/
theorem bytes_any (b off n c : Nat) (pos : Int) (X : Nat → ByteArray) (s : ByteArray) (w : World)
    (c1 : ∀ i, i < n → w.cell? ⟨b, off + i * 4 + 1, none⟩ = some (.string (X i))) (hx : ∀ i, i < n → (X i).size ≤ 9223372036854775807) (hs : s.size ≤ 9223372036854775807) (hn : n ≤ 9223372036854775807) :
    Calls Try.prog 15 #[.slice (some ⟨b, off, none⟩) n c, .int .i64 pos, .string s] w (BytesOut n X w) := by
  by_cases hn1 : 1048576 < n
  · go_enter Try.func15, Try.ntmps15
    go_wp2
    go_ret
    exact ⟨false, rfl, rfl, by simp⟩
  · go_enter Try.func15, Try.ntmps15
    go_wp2
    go_loop [7, 8] (fun z i => ∃ k y : Nat, k ≤ n ∧ y ≤ 1048576 ∧ i = .int .i64 k ∧ z = .int .i64 y ∧ ∀ j, j < k → (X j).size ≤ 1048576) (fun _ i => n - (intOf i).toNat)
    case atStart => exact ⟨0, n, Nat.zero_le _, by omega, rfl, rfl, fun j hj => absurd hj (Nat.not_lt_zero _)⟩
    case round =>
      obtain ⟨k, y, hk, hy, rfl, rfl, hall⟩ := hrel
      have HA : Hid (∀ j, j < k → (X j).size ≤ 1048576) := hall
      clear hall
      by_cases hlt : k < n
      · have e1 := c1 k hlt
        have hxk := hx k hlt
        have HX : Hid (∀ i, i < n → (X i).size ≤ 9223372036854775807) := hx
        clear hx c1
        by_cases hb : 1048576 < (X k).size
        · go_wp2
          go_ret
          exact ⟨false, rfl, rfl, by simp⟩
        · by_cases hc : 1048576 < y + (X k).size
          · go_wp2
            go_ret
            exact ⟨false, rfl, rfl, by simp⟩
          · go_wp2
            go_round
            case rel =>
              refine ⟨k + 1, y + (X k).size, by omega, by omega, by go_num, by go_num, fun j hj => ?_⟩
              by_cases e : j = k
              · subst e; omega
              · exact HA.out j (by omega)
            case measure => simp [intOf]; omega
      · have hkn : k = n := by omega
        subst hkn
        clear hx c1
        by_cases hb : 1048576 < s.size
        · go_wp2
          go_ret
          exact ⟨false, rfl, rfl, by simp⟩
        · by_cases hc : 1048576 < y + s.size
          · go_wp2
            go_ret
            exact ⟨false, rfl, rfl, by simp⟩
          · go_wp2
            go_ret
            exact ⟨true, rfl, rfl, fun _ => HA.out⟩

end Go.Proofs.Qxb6614055a.Tok
