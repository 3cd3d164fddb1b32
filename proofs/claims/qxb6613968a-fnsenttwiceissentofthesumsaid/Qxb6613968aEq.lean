/-
  zzBytesEqual and zzEventsAre, where what is compared is the same.
-/
import Derived.Test.Qxb6613968aBytes
namespace Go.Proofs.Qxb6613968a.Ch
open Go.ChangeShapes Go.WideShapes Go.ChangeAt Go.RowKit
set_option linter.unusedVariables false

theorem RowAt.drew {w : World} {H : Nat → Value} {n : Nat} {ao : Option Addr} (h : RowAt w H n ao) : RowAt w.drew H n ao := h.later (Below.refl _ _).drew

set_option maxRecDepth 100000 in
set_option maxHeartbeats 1000000 in
theorem beq_any (a1 a2 : Option Addr) (n c1 c2 : Nat) (D : Nat → Int) (w : World) (hn : n ≤ 1048576) (h1 : Hid (RowAt w (fun j => .int .u8 (D j)) n a1)) (h2 : Hid (RowAt w (fun j => .int .u8 (D j)) n a2)) :
    Calls Try.prog 32 #[.slice a1 n c1, .slice a2 n c2] w fun e w' => e = .returned (.bool true) ∧ Below w.heap.size w w' := by
  go_enter Try.func32, Try.ntmps32
  go_wp2
  go_loopw [5] (fun i wr => ∃ k : Nat, k ≤ n ∧ i = .int .i64 k ∧ Below w.heap.size w wr) (fun i _ => n - (intOf i).toNat)
  case atStart => exact ⟨0, Nat.zero_le _, rfl, Below.refl _ _⟩
  case round =>
    obtain ⟨k, hk, rfl, hbl⟩ := hrel
    have HB : Hid (Below w.heap.size w wr) := hbl
    by_cases hlt : k < n
    · obtain ⟨b, off, rfl, hc⟩ := (h1.out.later hbl) (by omega)
      obtain ⟨b', off', rfl, hc'⟩ := (h2.out.later hbl) (by omega)
      have e1 : wr.cell? ⟨b, off + k, none⟩ = some (.int .u8 (D k)) := hc k hlt
      have e2 : wr.cell? ⟨b', off' + k, none⟩ = some (.int .u8 (D k)) := hc' k hlt
      have b0 : (0 : Int) ≤ (k : Int) := by omega
      have b1 : (k : Int) < (n : Int) := by omega
      clear hc hc' hbl
      go_wp2
      go_region_held3 (fun w' => w'.cell? ⟨b, off + k, none⟩ = some (.int .u8 (D k)) ∧ w'.cell? ⟨b', off' + k, none⟩ = some (.int .u8 (D k))) (go_keep) (fail)
      go_wp2
      go_roundw
      case rel => exact ⟨k + 1, by omega, by go_num, HB.out.drew⟩
      case measure => simp [intOf]; omega
    · obtain rfl : k = n := by omega
      clear hbl
      go_wp2
      go_ret
      exact ⟨rfl, HB.out⟩

set_option maxRecDepth 100000 in
set_option maxHeartbeats 4000000 in
theorem are_any (g1 g2 g3 an ai ad : Option Addr) (n c1 c2 c3 cn ci cd : Nat) (S : Nat → ByteArray) (I : Nat → Int) (G A : Nat → Option Addr) (L K C : Nat → Nat) (D : Nat → Nat → Int) (w : World) (hn : n ≤ 1048576) (hL : Hid (∀ j, j < n → L j ≤ 1048576))
    (p1 : Hid (RowAt w (fun j => .string (S j)) n g1)) (p2 : Hid (RowAt w (fun j => .int .u64 (I j)) n g2)) (p3 : Hid (RowAt w (fun j => .slice (G j) (L j) (K j)) n g3)) (pd : Hid (∀ j, j < n → RowAt w (fun i => .int .u8 (D j i)) (L j) (G j)))
    (r1 : Hid (RowAt w (fun j => .string (S j)) n an)) (r2 : Hid (RowAt w (fun j => .int .u64 (I j)) n ai)) (r3 : Hid (RowAt w (fun j => .slice (A j) (L j) (C j)) n ad)) (rd : Hid (∀ j, j < n → RowAt w (fun i => .int .u8 (D j i)) (L j) (A j))) :
    Calls Try.prog 20 #[.slice g1 n c1, .slice g2 n c2, .slice g3 n c3, .slice an n cn, .slice ai n ci, .slice ad n cd, .slice none 0 0, .slice none 0 0, .slice none 0 0] w fun e w' => e = .returned (.bool true) ∧ Below w.heap.size w w' := by
  go_enter Try.func20, Try.ntmps20
  go_wp2
  go_loopw [21] (fun i wr => ∃ k : Nat, k ≤ n ∧ i = .int .i64 k ∧ Below w.heap.size w wr) (fun i _ => n - (intOf i).toNat)
  case atStart => exact ⟨0, Nat.zero_le _, rfl, Below.refl _ _⟩
  case round =>
    obtain ⟨k, hk, rfl, hbl⟩ := hrel
    have HB : Hid (Below w.heap.size w wr) := hbl
    by_cases hlt : k < n
    · have hz := HB.out.size
      obtain ⟨x1, o1, rfl, hc1⟩ := (p1.out.later hbl) (by omega)
      obtain ⟨x2, o2, rfl, hc2⟩ := (p2.out.later hbl) (by omega)
      obtain ⟨x3, o3, rfl, hc3⟩ := (p3.out.later hbl) (by omega)
      obtain ⟨x4, o4, rfl, hc4⟩ := (r1.out.later hbl) (by omega)
      obtain ⟨x5, o5, rfl, hc5⟩ := (r2.out.later hbl) (by omega)
      obtain ⟨x6, o6, rfl, hc6⟩ := (r3.out.later hbl) (by omega)
      have e1 : wr.cell? ⟨x1, o1 + k, none⟩ = some (.string (S k)) := hc1 k hlt
      have e2 : wr.cell? ⟨x2, o2 + k, none⟩ = some (.int .u64 (I k)) := hc2 k hlt
      have e3 : wr.cell? ⟨x3, o3 + k, none⟩ = some (.slice (G k) (L k) (K k)) := hc3 k hlt
      have e4 : wr.cell? ⟨x4, o4 + k, none⟩ = some (.string (S k)) := hc4 k hlt
      have e5 : wr.cell? ⟨x5, o5 + k, none⟩ = some (.int .u64 (I k)) := hc5 k hlt
      have e6 : wr.cell? ⟨x6, o6 + k, none⟩ = some (.slice (A k) (L k) (C k)) := hc6 k hlt
      have b0 : (0 : Int) ≤ (k : Int) := by omega
      have b1 : (k : Int) < (n : Int) := by omega
      have hLk := hL.out k hlt
      have D1 : Hid (RowAt wr (fun i => .int .u8 (D k i)) (L k) (G k)) := (pd.out k hlt).later hbl
      have D2 : Hid (RowAt wr (fun i => .int .u8 (D k i)) (L k) (A k)) := (rd.out k hlt).later hbl
      clear hc1 hc2 hc3 hc4 hc5 hc6 hbl
      go_wp2
      go_region_held3 (fun w' => w'.cell? ⟨x1, o1 + k, none⟩ = some (.string (S k)) ∧ w'.cell? ⟨x2, o2 + k, none⟩ = some (.int .u64 (I k)) ∧ w'.cell? ⟨x3, o3 + k, none⟩ = some (.slice (G k) (L k) (K k)) ∧ w'.cell? ⟨x4, o4 + k, none⟩ = some (.string (S k)) ∧ w'.cell? ⟨x5, o5 + k, none⟩ = some (.int .u64 (I k)) ∧ w'.cell? ⟨x6, o6 + k, none⟩ = some (.slice (A k) (L k) (C k))) (go_keep) ((go_at_call 32; refine (beq_any (G k) (A k) (L k) (K k) (C k) (D k) _ hLk (by first | exact D1 | exact D1.out.drew) (by first | exact D2 | exact D2.out.drew)).mono ?_; rintro e w2 ⟨rfl, hb2⟩; have HB2 : Hid (Below w.heap.size w w2) := HB.out.drew.trans (hb2.mono (by simp; omega)); have E1 : w2.cell? ⟨x1, o1 + k, none⟩ = some (.string (S k)) := cell_later hb2 e1; have E2 : w2.cell? ⟨x2, o2 + k, none⟩ = some (.int .u64 (I k)) := cell_later hb2 e2; have E3 : w2.cell? ⟨x3, o3 + k, none⟩ = some (.slice (G k) (L k) (K k)) := cell_later hb2 e3; have E4 : w2.cell? ⟨x4, o4 + k, none⟩ = some (.string (S k)) := cell_later hb2 e4; have E5 : w2.cell? ⟨x5, o5 + k, none⟩ = some (.int .u64 (I k)) := cell_later hb2 e5; have E6 : w2.cell? ⟨x6, o6 + k, none⟩ = some (.slice (A k) (L k) (C k)) := cell_later hb2 e6; clear hb2))
      go_wp2
      go_roundw
      case rel => exact ⟨k + 1, by omega, by go_num, HB2.out⟩
      case measure => simp [intOf]; omega
    · obtain rfl : k = n := by omega
      clear hbl
      go_wp2
      refine wp_loop_rounds 1 ?_
      rw [rounds_succ]
      go_wp2
      go_ret
      exact ⟨rfl, HB.out⟩
end Go.Proofs.Qxb6613968a.Ch
