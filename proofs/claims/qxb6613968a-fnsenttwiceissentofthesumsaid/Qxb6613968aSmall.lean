/-
  The size guards, and what reads one field of a reader.
-/
import Derived.Test.Qxb6613968aReader
import Derived.Deep.LoopGhost
import Derived.Conc.LoneSelectN
namespace Go.Proofs.Qxb6613968a.Ch
open Go.ChangeShapes Go.WideShapes Go.ChangeAt Go.RowKit
set_option linter.unusedVariables false

/-- Some integer comes back; nothing is touched. -/
def IntOut (w : World) (e : Ending) (w' : World) : Prop := ∃ t : Int, e = .returned (.int .i64 t) ∧ w' = w

set_option maxRecDepth 100000 in
theorem addStr_any (t : Int) (ao : Option Addr) (n c : Nat) (S : Nat → ByteArray) (w : World) (hn : n ≤ 1048576) (hr : Hid (RowAt w (fun j => .string (S j)) n ao)) :
    Calls Try.prog 25 #[.int .i64 t, .slice ao n c] w (IntOut w) := by
  go_enter Try.func25, Try.ntmps25
  go_wp2
  go_loop [0, 5] (fun z i => ∃ (k : Nat) (y : Int), k ≤ n ∧ i = .int .i64 k ∧ z = .int .i64 y) (fun _ i => n - (intOf i).toNat)
  case atStart => exact ⟨0, t, Nat.zero_le _, rfl, rfl⟩
  case round =>
    obtain ⟨k, y, hk, rfl, rfl⟩ := hrel
    by_cases hlt : k < n
    · obtain ⟨b, off, rfl, hc⟩ := hr.out (by omega)
      have e1 := hc k hlt
      have b0 : (0 : Int) ≤ (k : Int) := by omega
      have b1 : (k : Int) < (n : Int) := by omega
      clear hc
      by_cases hb : 1048576 < wrap64 (y + wrap64 (16 + ((S k).size : Int)))
      · have hd : decide (1048576 < wrap64 (y + wrap64 (16 + ((S k).size : Int)))) = true := by simpa using hb
        go_wp2
        go_ret
        exact ⟨_, rfl, rfl⟩
      · have hd : decide (1048576 < wrap64 (y + wrap64 (16 + ((S k).size : Int)))) = false := by simpa using hb
        go_wp2
        go_round
        case rel => exact ⟨k + 1, _, by omega, by go_num, rfl⟩
        case measure => simp [intOf]; omega
    · obtain rfl : k = n := by omega
      go_wp2
      go_ret
      exact ⟨_, rfl, rfl⟩

set_option maxRecDepth 100000 in
theorem addByt_any (t : Int) (ao : Option Addr) (n c : Nat) (A : Nat → Option Addr) (L C : Nat → Nat) (w : World) (hn : n ≤ 1048576) (hr : Hid (RowAt w (fun j => .slice (A j) (L j) (C j)) n ao)) :
    Calls Try.prog 27 #[.int .i64 t, .slice ao n c] w (IntOut w) := by
  go_enter Try.func27, Try.ntmps27
  go_wp2
  go_loop [0, 5] (fun z i => ∃ (k : Nat) (y : Int), k ≤ n ∧ i = .int .i64 k ∧ z = .int .i64 y) (fun _ i => n - (intOf i).toNat)
  case atStart => exact ⟨0, t, Nat.zero_le _, rfl, rfl⟩
  case round =>
    obtain ⟨k, y, hk, rfl, rfl⟩ := hrel
    by_cases hlt : k < n
    · obtain ⟨b, off, rfl, hc⟩ := hr.out (by omega)
      have e1 := hc k hlt
      have b0 : (0 : Int) ≤ (k : Int) := by omega
      have b1 : (k : Int) < (n : Int) := by omega
      clear hc
      by_cases hb : 1048576 < wrap64 (y + wrap64 (24 + (L k : Int)))
      · have hd : decide (1048576 < wrap64 (y + wrap64 (24 + (L k : Int)))) = true := by simpa using hb
        go_wp2
        go_ret
        exact ⟨_, rfl, rfl⟩
      · have hd : decide (1048576 < wrap64 (y + wrap64 (24 + (L k : Int)))) = false := by simpa using hb
        go_wp2
        go_round
        case rel => exact ⟨k + 1, _, by omega, by go_num, rfl⟩
        case measure => simp [intOf]; omega
    · obtain rfl : k = n := by omega
      go_wp2
      go_ret
      exact ⟨_, rfl, rfl⟩

set_option maxRecDepth 100000 in
theorem addWrd_any (t n : Int) (w : World) : Calls Try.prog 26 #[.int .i64 t, .int .i64 n] w (IntOut w) := by
  by_cases h : 131072 < n
  · have hd : decide (131072 < n) = true := by simpa using h
    go_enter Try.func26, Try.ntmps26
    go_wp2
    go_ret
    exact ⟨_, rfl, rfl⟩
  · have hd : decide (131072 < n) = false := by simpa using h
    go_enter Try.func26, Try.ntmps26
    go_wp2
    go_ret
    exact ⟨_, rfl, rfl⟩

set_option maxRecDepth 100000 in
theorem size_any (t : Int) (an ai ad : Option Addr) (n ni nd cn ci cd : Nat) (S : Nat → ByteArray) (A : Nat → Option Addr) (L C : Nat → Nat) (w : World) (hn : n ≤ 1048576) (hd : nd ≤ 1048576)
    (r1 : Hid (RowAt w (fun j => .string (S j)) n an)) (r3 : Hid (RowAt w (fun j => .slice (A j) (L j) (C j)) nd ad)) :
    Calls Try.prog 7 #[.int .i64 t, .slice an n cn, .slice ai ni ci, .slice ad nd cd] w (IntOut w) := by
  go_enter Try.func7, Try.ntmps7
  go_wp2_with (first
    | (go_at_call 25; refine (addStr_any t an n cn S w hn r1).mono ?_; rintro e w' ⟨t1, rfl, hw⟩; subst w')
    | (go_at_call 26; refine (addWrd_any _ _ w).mono ?_; rintro e w' ⟨t2, rfl, hw⟩; subst w')
    | (go_at_call 27; refine (addByt_any _ ad nd cd A L C w hd r3).mono ?_; rintro e w' ⟨t3, rfl, hw⟩; subst w'))
  all_goals
    go_ret
    exact ⟨_, rfl, rfl⟩

/-- zzSameLens -/
theorem lens_any (an ai ad : Option Addr) (n ni nd cn ci cd : Nat) (w : World) :
    Calls Try.prog 8 #[.slice an n cn, .slice ai ni ci, .slice ad nd cd] w fun e w' => e = .returned (.bool (decide (ni = n ∧ nd = n))) ∧ w' = w := by
  by_cases h1 : ni = n
  · by_cases h2 : nd = n
    · subst h1 h2
      go_enter Try.func8, Try.ntmps8
      go_wp2
      go_ret
      simp
    · have hd : ((nd : Int) == (n : Int)) = false := by simp; omega
      subst h1
      go_enter Try.func8, Try.ntmps8
      go_wp2
      go_ret
      simp [h2]
  · have hd : ((ni : Int) == (n : Int)) = false := by simp; omega
    go_enter Try.func8, Try.ntmps8
    go_wp2
    go_ret
    simp [h1]

set_option maxRecDepth 100000 in
theorem chan_any (w : World) :
    Calls Try.prog 22 #[] w fun e w' => e = .returned (.pointer (some ⟨w.heap.size, 0, none⟩)) ∧ Below w.heap.size w w' ∧ w'.cell? ⟨w.heap.size, 3, none⟩ = some (.int .i32 0) ∧ w'.frozen? ⟨w.heap.size, 3, none⟩ = false ∧ w'.heap.size = w.heap.size + 1 := by
  go_enter Try.func22, Try.ntmps22
  go_wp2
  go_ret
  refine ⟨rfl, (Below.refl _ _).alloc (Nat.le_refl _) _, ?_, ?_, ?_⟩
  · simp
  · simp
  · simp

theorem unsent_any (R : Nat) (u : Int) (w : World) (h : w.cell? ⟨R, 4, none⟩ = some (.int .i64 u)) :
    Calls Try.prog 17 #[.pointer (some ⟨R, 0, none⟩)] w fun e w' => e = .returned (.int .i64 u) ∧ w' = w := by
  go_enter Try.func17, Try.ntmps17
  go_wp2
  go_ret
  exact ⟨rfl, rfl⟩

theorem cut_any (R : Nat) (u : Int) (w : World) (h : w.cell? ⟨R, 5, none⟩ = some (.int .i64 u)) :
    Calls Try.prog 18 #[.pointer (some ⟨R, 0, none⟩)] w fun e w' => e = .returned (.int .i64 u) ∧ w' = w := by
  go_enter Try.func18, Try.ntmps18
  go_wp2
  go_ret
  exact ⟨rfl, rfl⟩

set_option maxRecDepth 100000 in
set_option linter.unusedSimpArgs false in
theorem token_any (R c : Nat) (tk : Bool) (w : World) (h : w.cell? ⟨R, 0, none⟩ = some (.chan (some c)))
    (hc : ∃ s, w.heap[c]? = some (.chan 1 (if tk then #[.agg #[]] else #[]) false s 0 false)) :
    Calls Try.prog 19 #[.pointer (some ⟨R, 0, none⟩)] w fun e w' => e = .returned (.bool tk) ∧ w' = w := by
  obtain ⟨s, hc⟩ := hc
  cases tk
  all_goals
    simp only [Bool.false_eq_true, ↓reduceIte] at hc
    have hlen := fun ty => Go.Conc.run_len_chan (P := Try.prog) 50 ty Try.underlying50 hc
    go_enter Try.func19, Try.ntmps19
    go_wp2
    go_ret
    exact ⟨rfl, rfl⟩
end Go.Proofs.Qxb6613968a.Ch
