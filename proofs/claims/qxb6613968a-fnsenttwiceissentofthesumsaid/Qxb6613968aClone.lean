/-
  zzCloneStrings, zzCloneWords, zzCloneByteSlice: each by a contract.
-/
import Derived.Test.Qxb6613968aRow
import Derived.OwnWalk
import Derived.Lib.SliceRun
namespace Go.Proofs.Qxb6613968a.Ch
open Go.ChangeShapes Go.WideShapes Go.ChangeAt Go.RowKit
set_option linter.unusedVariables false

theorem Try.info9 : (Try.prog.info? 9).map (fun i => (i.zero, i.size, i.bytes)) = some (some (.string { data := #[] }), 1, 16) := by kernel_rfl

set_option maxRecDepth 100000 in
set_option maxHeartbeats 1000000 in
/-- zzCloneStrings of a slice that is not nil. -/
theorem cloneStr_some (a : Addr) (n c : Nat) (S : Nat → ByteArray) (w : World) (hr : Hid (RowAt w (fun j => .string (S j)) n (some a))) (hn : n ≤ 1048576) :
    Calls Try.prog 11 #[.slice (some a) n c] w (CloneOut (fun j => .string (S j)) n (some a) w) := by
  obtain ⟨i0, hi, hz0, hz1, hz2⟩ := info_parts Try.info9
  have HI : Hid (Try.prog.info? 9 = some i0 ∧ i0.zero = some (.string { data := #[] }) ∧ i0.size = 1 ∧ i0.bytes = 16) := ⟨hi, hz0, hz1, hz2⟩
  clear hi hz0 hz1 hz2
  have hnil := fun (w : World) (x : Option Addr) (l k l' k' : Nat) => Lib.run_eql_slice_nil (P := Try.prog) w 22 9 x l k l' k' Try.underlying22
  go_enter Try.func11, Try.ntmps11
  go_wp2_with (at_make; refine wpList_make_full _ rfl (.tmp 8) (.tmp 8) 22 rfl w.heap.size 9 i0 _ 1 Try.underlying22 HI.out.1 HI.out.2.1 HI.out.2.2.1 .i64 .i64 _ _ n rfl rfl rfl rfl (by rw [HI.out.2.2.2]; omega) (by unfold maxLen; omega) (Nat.le_refl _) ?_; intro w1 hown hgrow)
  go_loopw [4] (fun i wr => ∃ k : Nat, k ≤ n ∧ i = .int .i64 k ∧ Below w.heap.size w wr ∧ wr.there w.heap.size 0 n ∧ ∀ j, j < k → wr.cell? ⟨w.heap.size, j, none⟩ = some (.string (S j))) (fun i _ => n - (intOf i).toNat)
  case atStart =>
    exact ⟨0, Nat.zero_le _, rfl, (Below.refl _ _).grown hgrow (Nat.le_refl _) (by simp), there_made hown, fun j hj => absurd hj (Nat.not_lt_zero _)⟩
  case round =>
    obtain ⟨k, hk, rfl, hbl, hth, hrow⟩ := hrel
    have H : Hid (Below w.heap.size w wr ∧ wr.there w.heap.size 0 n ∧ ∀ j, j < k → wr.cell? ⟨w.heap.size, j, none⟩ = some (.string (S j))) := ⟨hbl, hth, hrow⟩
    by_cases hlt : k < n
    · obtain ⟨b, off, e, hc⟩ := hr.out (by omega)
      obtain rfl := Option.some.inj e
      have e1 : wr.cell? ⟨b, off + k, none⟩ = some (.string (S k)) := (hbl.cell (p := ⟨b, off + k, none⟩) (World.block_lt_of_cell? w _ (hc k hlt))).trans (hc k hlt)
      obtain ⟨s0, f0⟩ := hth k hlt
      simp only [Nat.zero_add] at s0 f0
      obtain ⟨u0, s0⟩ := Option.isSome_iff_exists.1 s0
      clear hbl hth hrow hc e hown hgrow
      go_wp2
      go_roundw
      case rel =>
        obtain ⟨r1, r2, r3⟩ := row_step (H := fun j => .string (S j)) rfl hlt H.out.1 H.out.2.1 H.out.2.2
        exact ⟨k + 1, by omega, by go_num, r1, r2, r3⟩
      case measure => simp [intOf]; omega
    · obtain rfl : k = n := by omega
      clear hbl hth hrow hown hgrow
      go_wp2
      go_ret
      exact ⟨some ⟨w.heap.size, 0, none⟩, by simp, rfl, H.out.1, fun _ => ⟨w.heap.size, 0, rfl, fun j hj => by rw [Nat.zero_add]; exact H.out.2.2 j hj⟩⟩

set_option maxRecDepth 100000 in
theorem cloneStr_nil (S : Nat → ByteArray) (w : World) :
    Calls Try.prog 11 #[.slice none 0 0] w (CloneOut (fun j => .string (S j)) 0 none w) := by
  have hnil := fun (w : World) (x : Option Addr) (l k l' k' : Nat) => Lib.run_eql_slice_nil (P := Try.prog) w 22 9 x l k l' k' Try.underlying22
  go_enter Try.func11, Try.ntmps11
  go_wp2
  go_ret
  exact ⟨none, by simp, rfl, Below.refl _ _, fun h => absurd h (Nat.lt_irrefl _)⟩

theorem cloneStr_any (ao : Option Addr) (n c : Nat) (S : Nat → ByteArray) (w : World) (h0 : ao = none → n = 0 ∧ c = 0) (hr : RowAt w (fun j => .string (S j)) n ao) (hn : n ≤ 1048576) :
    Calls Try.prog 11 #[.slice ao n c] w (CloneOut (fun j => .string (S j)) n ao w) := by
  cases ao with
  | none =>
    obtain ⟨rfl, rfl⟩ := h0 rfl
    exact cloneStr_nil S w
  | some a => exact cloneStr_some a n c S w hr hn

theorem Try.info35 : (Try.prog.info? 35).map (fun i => (i.zero, i.size, i.bytes)) = some (some (.int .u64 0), 1, 8) := by kernel_rfl

set_option maxRecDepth 100000 in
set_option maxHeartbeats 1000000 in
/-- zzCloneWords of a slice that is not nil. -/
theorem cloneWrd_some (a : Addr) (n c : Nat) (S : Nat → Int) (w : World) (hr : Hid (RowAt w (fun j => .int .u64 (S j)) n (some a))) (hn : n ≤ 1048576) :
    Calls Try.prog 12 #[.slice (some a) n c] w (CloneOut (fun j => .int .u64 (S j)) n (some a) w) := by
  obtain ⟨i0, hi, hz0, hz1, hz2⟩ := info_parts Try.info35
  have HI : Hid (Try.prog.info? 35 = some i0 ∧ i0.zero = some (.int .u64 0) ∧ i0.size = 1 ∧ i0.bytes = 8) := ⟨hi, hz0, hz1, hz2⟩
  clear hi hz0 hz1 hz2
  have hnil := fun (w : World) (x : Option Addr) (l k l' k' : Nat) => Lib.run_eql_slice_nil (P := Try.prog) w 23 35 x l k l' k' Try.underlying23
  go_enter Try.func12, Try.ntmps12
  go_wp2_with (at_make; refine wpList_make_full _ rfl (.tmp 8) (.tmp 8) 23 rfl w.heap.size 35 i0 _ 1 Try.underlying23 HI.out.1 HI.out.2.1 HI.out.2.2.1 .i64 .i64 _ _ n rfl rfl rfl rfl (by rw [HI.out.2.2.2]; omega) (by unfold maxLen; omega) (Nat.le_refl _) ?_; intro w1 hown hgrow)
  go_loopw [4] (fun i wr => ∃ k : Nat, k ≤ n ∧ i = .int .i64 k ∧ Below w.heap.size w wr ∧ wr.there w.heap.size 0 n ∧ ∀ j, j < k → wr.cell? ⟨w.heap.size, j, none⟩ = some (.int .u64 (S j))) (fun i _ => n - (intOf i).toNat)
  case atStart =>
    exact ⟨0, Nat.zero_le _, rfl, (Below.refl _ _).grown hgrow (Nat.le_refl _) (by simp), there_made hown, fun j hj => absurd hj (Nat.not_lt_zero _)⟩
  case round =>
    obtain ⟨k, hk, rfl, hbl, hth, hrow⟩ := hrel
    have H : Hid (Below w.heap.size w wr ∧ wr.there w.heap.size 0 n ∧ ∀ j, j < k → wr.cell? ⟨w.heap.size, j, none⟩ = some (.int .u64 (S j))) := ⟨hbl, hth, hrow⟩
    by_cases hlt : k < n
    · obtain ⟨b, off, e, hc⟩ := hr.out (by omega)
      obtain rfl := Option.some.inj e
      have e1 : wr.cell? ⟨b, off + k, none⟩ = some (.int .u64 (S k)) := (hbl.cell (p := ⟨b, off + k, none⟩) (World.block_lt_of_cell? w _ (hc k hlt))).trans (hc k hlt)
      obtain ⟨s0, f0⟩ := hth k hlt
      simp only [Nat.zero_add] at s0 f0
      obtain ⟨u0, s0⟩ := Option.isSome_iff_exists.1 s0
      clear hbl hth hrow hc e hown hgrow
      go_wp2
      go_roundw
      case rel =>
        obtain ⟨r1, r2, r3⟩ := row_step (H := fun j => .int .u64 (S j)) rfl hlt H.out.1 H.out.2.1 H.out.2.2
        exact ⟨k + 1, by omega, by go_num, r1, r2, r3⟩
      case measure => simp [intOf]; omega
    · obtain rfl : k = n := by omega
      clear hbl hth hrow hown hgrow
      go_wp2
      go_ret
      exact ⟨some ⟨w.heap.size, 0, none⟩, by simp, rfl, H.out.1, fun _ => ⟨w.heap.size, 0, rfl, fun j hj => by rw [Nat.zero_add]; exact H.out.2.2 j hj⟩⟩

set_option maxRecDepth 100000 in
theorem cloneWrd_nil (S : Nat → Int) (w : World) :
    Calls Try.prog 12 #[.slice none 0 0] w (CloneOut (fun j => .int .u64 (S j)) 0 none w) := by
  have hnil := fun (w : World) (x : Option Addr) (l k l' k' : Nat) => Lib.run_eql_slice_nil (P := Try.prog) w 23 35 x l k l' k' Try.underlying23
  go_enter Try.func12, Try.ntmps12
  go_wp2
  go_ret
  exact ⟨none, by simp, rfl, Below.refl _ _, fun h => absurd h (Nat.lt_irrefl _)⟩

theorem cloneWrd_any (ao : Option Addr) (n c : Nat) (S : Nat → Int) (w : World) (h0 : ao = none → n = 0 ∧ c = 0) (hr : RowAt w (fun j => .int .u64 (S j)) n ao) (hn : n ≤ 1048576) :
    Calls Try.prog 12 #[.slice ao n c] w (CloneOut (fun j => .int .u64 (S j)) n ao w) := by
  cases ao with
  | none =>
    obtain ⟨rfl, rfl⟩ := h0 rfl
    exact cloneWrd_nil S w
  | some a => exact cloneWrd_some a n c S w hr hn

theorem Try.info5 : (Try.prog.info? 5).map (fun i => (i.zero, i.size, i.bytes)) = some (some (.int .u8 0), 1, 1) := by kernel_rfl

set_option maxRecDepth 100000 in
set_option maxHeartbeats 1000000 in
/-- zzCloneByteSlice of a slice that is not nil. -/
theorem cloneByt_some (a : Addr) (n c : Nat) (S : Nat → Int) (w : World) (hr : Hid (RowAt w (fun j => .int .u8 (S j)) n (some a))) (hn : n ≤ 1048576) :
    Calls Try.prog 29 #[.slice (some a) n c] w (CloneOut (fun j => .int .u8 (S j)) n (some a) w) := by
  obtain ⟨i0, hi, hz0, hz1, hz2⟩ := info_parts Try.info5
  have HI : Hid (Try.prog.info? 5 = some i0 ∧ i0.zero = some (.int .u8 0) ∧ i0.size = 1 ∧ i0.bytes = 1) := ⟨hi, hz0, hz1, hz2⟩
  clear hi hz0 hz1 hz2
  have hnil := fun (w : World) (x : Option Addr) (l k l' k' : Nat) => Lib.run_eql_slice_nil (P := Try.prog) w 36 5 x l k l' k' Try.underlying36
  go_enter Try.func29, Try.ntmps29
  go_wp2_with (at_make; refine wpList_make_full _ rfl (.tmp 8) (.tmp 8) 36 rfl w.heap.size 5 i0 _ 1 Try.underlying36 HI.out.1 HI.out.2.1 HI.out.2.2.1 .i64 .i64 _ _ n rfl rfl rfl rfl (by rw [HI.out.2.2.2]; omega) (by unfold maxLen; omega) (Nat.le_refl _) ?_; intro w1 hown hgrow)
  go_loopw [4] (fun i wr => ∃ k : Nat, k ≤ n ∧ i = .int .i64 k ∧ Below w.heap.size w wr ∧ wr.there w.heap.size 0 n ∧ ∀ j, j < k → wr.cell? ⟨w.heap.size, j, none⟩ = some (.int .u8 (S j))) (fun i _ => n - (intOf i).toNat)
  case atStart =>
    exact ⟨0, Nat.zero_le _, rfl, (Below.refl _ _).grown hgrow (Nat.le_refl _) (by simp), there_made hown, fun j hj => absurd hj (Nat.not_lt_zero _)⟩
  case round =>
    obtain ⟨k, hk, rfl, hbl, hth, hrow⟩ := hrel
    have H : Hid (Below w.heap.size w wr ∧ wr.there w.heap.size 0 n ∧ ∀ j, j < k → wr.cell? ⟨w.heap.size, j, none⟩ = some (.int .u8 (S j))) := ⟨hbl, hth, hrow⟩
    by_cases hlt : k < n
    · obtain ⟨b, off, e, hc⟩ := hr.out (by omega)
      obtain rfl := Option.some.inj e
      have e1 : wr.cell? ⟨b, off + k, none⟩ = some (.int .u8 (S k)) := (hbl.cell (p := ⟨b, off + k, none⟩) (World.block_lt_of_cell? w _ (hc k hlt))).trans (hc k hlt)
      obtain ⟨s0, f0⟩ := hth k hlt
      simp only [Nat.zero_add] at s0 f0
      obtain ⟨u0, s0⟩ := Option.isSome_iff_exists.1 s0
      clear hbl hth hrow hc e hown hgrow
      go_wp2
      go_roundw
      case rel =>
        obtain ⟨r1, r2, r3⟩ := row_step (H := fun j => .int .u8 (S j)) rfl hlt H.out.1 H.out.2.1 H.out.2.2
        exact ⟨k + 1, by omega, by go_num, r1, r2, r3⟩
      case measure => simp [intOf]; omega
    · obtain rfl : k = n := by omega
      clear hbl hth hrow hown hgrow
      go_wp2
      go_ret
      exact ⟨some ⟨w.heap.size, 0, none⟩, by simp, rfl, H.out.1, fun _ => ⟨w.heap.size, 0, rfl, fun j hj => by rw [Nat.zero_add]; exact H.out.2.2 j hj⟩⟩

set_option maxRecDepth 100000 in
theorem cloneByt_nil (S : Nat → Int) (w : World) :
    Calls Try.prog 29 #[.slice none 0 0] w (CloneOut (fun j => .int .u8 (S j)) 0 none w) := by
  have hnil := fun (w : World) (x : Option Addr) (l k l' k' : Nat) => Lib.run_eql_slice_nil (P := Try.prog) w 36 5 x l k l' k' Try.underlying36
  go_enter Try.func29, Try.ntmps29
  go_wp2
  go_ret
  exact ⟨none, by simp, rfl, Below.refl _ _, fun h => absurd h (Nat.lt_irrefl _)⟩

theorem cloneByt_any (ao : Option Addr) (n c : Nat) (S : Nat → Int) (w : World) (h0 : ao = none → n = 0 ∧ c = 0) (hr : RowAt w (fun j => .int .u8 (S j)) n ao) (hn : n ≤ 1048576) :
    Calls Try.prog 29 #[.slice ao n c] w (CloneOut (fun j => .int .u8 (S j)) n ao w) := by
  cases ao with
  | none =>
    obtain ⟨rfl, rfl⟩ := h0 rfl
    exact cloneByt_nil S w
  | some a => exact cloneByt_some a n c S w hr hn

end Go.Proofs.Qxb6613968a.Ch
