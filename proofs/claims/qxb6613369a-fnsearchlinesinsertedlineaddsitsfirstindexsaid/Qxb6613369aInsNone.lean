/-
  FnSearchLinesInsertedLineAddsItsFirstIndex over no line: the walk.
-/
import Derived.Test.Qxb6613369aIns
namespace Go.Proofs.Qxb6613369a.SL
open Go.ChangeShapes Go.WideShapes Go.ChangeAt Go.RowKit
open Plain
set_option linter.unusedVariables false

set_option maxHeartbeats 2000000 in
set_option maxRecDepth 100000 in
/-- No line, the slice nil. -/
theorem ins_nil (q ch : Int) (al : Option Addr) (ll cl : Nat) (zl : Nat → Int) (w : World) (hrl : Hid (IsRow w al ll cl zl)) :
    Calls Try.prog 4 #[.slice none 0 0, .int .i64 q, .slice al ll cl, .int .u8 ch] w fun e w' => e = .returned (.bool true) ∧ Below w.heap.size w w' := by
  have hll : ll ≤ 9223372036854775807 := by have h := hrl.out; have h1 := h.1; have h2 := h.2.1; unfold maxLen at h2; omega
  obtain ⟨i0, hi, hz0, hz1, hz2⟩ := info_parts Try.info24
  have HI : Hid (Try.prog.info? 24 = some i0 ∧ i0.zero = some (.slice none 0 0) ∧ i0.size = 1 ∧ i0.bytes = 24) := ⟨hi, hz0, hz1, hz2⟩
  clear hi hz0 hz1 hz2
  go_enter Try.func4, Try.ntmps4
  go_wp2_with fail
  refine (bytes10_none none 0 q ch al ll cl (fun _ => 0) _ hll).mono ?_
  rintro e w' ⟨r, rfl, hw, hr1⟩
  subst w'
  clear hr1
  cases r
  · go_wp2
    go_ret
    exact ⟨rfl, (Below.refl _ _).alloc (Nat.le_refl _) _⟩
  by_cases hl2 : 65536 < ll
  · go_wp2
    go_ret
    exact ⟨rfl, (Below.refl _ _).alloc (Nat.le_refl _) _⟩
  go_wp2
  refine wp_loop_rounds 1 ?_
  rw [rounds_succ]
  by_cases hp0 : q < 0
  · go_wp2
    go_ret
    exact ⟨rfl, (Below.refl _ _).alloc (Nat.le_refl _) _⟩
  have hd2 : decide (q < 0) = false := by simp; omega
  by_cases hp1 : 0 < q
  · go_wp2
    go_ret
    exact ⟨rfl, (Below.refl _ _).alloc (Nat.le_refl _) _⟩
  obtain rfl : q = 0 := by omega
  clear hp0 hp1 hd2
  go_wp2_with (first
    | (at_make; refine wpList_make_own _ rfl _ _ 22 rfl (w.heap.size + 1) 24 i0 (.slice none 0 0) 1 Try.underlying22 HI.out.1 HI.out.2.1 HI.out.2.2.1 _ _ _ 1 rfl rfl (by omega) (by rw [HI.out.2.2.2]; omega) (by unfold maxLen; omega) (by simp) ?_; intro w1 hown1 hgrow1; have O1 : Hid (w1.ownsRow (w.heap.size + 1) 24 1 (.slice (some ⟨w.heap.size + 1, 0, none⟩) 0 1) 0 []) := (by unfold Hid; simpa using hown1); have V1 : Hid (Below (w.heap.size + 1) (w.alloc (.cells #[.int .u8 ch] 5)) w1) := (Below.refl _ _).grown hgrow1 (by simp) (by simp); clear hown1 hgrow1)
    | (at_builtin; refine wpList_append_fits_any _ rfl (.tmp 65) (.tmp 68) 22 rfl (w.heap.size + 1) 24 i0 1 Try.underlying22 HI.out.1 HI.out.2.2.1 (w.heap.size + 1) 0 1 [] rfl O1.out _ 0 _ [] rfl rfl (by intro _; exact ⟨rfl, rfl⟩) (by intro ad _ j u hu; simp at hu) (by simp) (by omega) ?_; intro w2 hown2 hgrow2; have O2 : Hid (w2.ownsRow (w.heap.size + 1) 24 1 (.slice (some ⟨w.heap.size + 1, 0, none⟩) 0 1) 0 []) := hown2; have V2 : Hid (Below (w.heap.size + 1) (w.alloc (.cells #[.int .u8 ch] 5)) w2) := V1.out.grown hgrow2 (by have := V1.out.size; simp at this; omega) (by simp); clear hown2 hgrow2 O1 V1)
    | (at_builtin; refine wpList_append_fits _ rfl (.tmp 70) (.tmp 72) 22 rfl (w.heap.size + 1) 24 i0 1 Try.underlying22 HI.out.1 HI.out.2.2.1 (w.heap.size + 1) 0 1 _ rfl (O2.out.alloc _) ⟨w2.heap.size, 0, none⟩ 1 1 [.slice al ll cl] rfl rfl (by intro t u ht; match t, ht with | 0, ht => simp at ht; subst ht; simp [Addr.add]) (by intro u hu; simp at hu; subst hu; rfl) (by omega) ?_; intro w3 hown3 hgrow3; have O3 : Hid (w3.ownsRow (w.heap.size + 1) 24 1 (.slice (some ⟨w.heap.size + 1, 0, none⟩) 1 1) 1 [.slice al ll cl]) := hown3; have V3 : Hid (Below (w.heap.size + 1) (w.alloc (.cells #[.int .u8 ch] 5)) w3) := (V2.out.alloc (by have := V2.out.size; simp at this; omega) _).grown hgrow3 (by have := V2.out.size; simp at this; simp; omega) (by simp); clear hown3 hgrow3 O2 V2)
    | (at_builtin; refine wpList_append_fits_any _ rfl (.tmp 74) (.tmp 77) 22 rfl (w.heap.size + 1) 24 i0 1 Try.underlying22 HI.out.1 HI.out.2.2.1 (w.heap.size + 1) 1 1 _ rfl O3.out _ 0 _ [] rfl rfl (by intro _; exact ⟨rfl, rfl⟩) (by intro ad _ j u hu; simp at hu) (by simp) (by omega) ?_; intro w4 hown4 hgrow4; have O4 : Hid (w4.ownsRow (w.heap.size + 1) 24 1 (.slice (some ⟨w.heap.size + 1, 0, none⟩) 1 1) 1 [.slice al ll cl]) := hown4; have V4 : Hid (Below (w.heap.size + 1) (w.alloc (.cells #[.int .u8 ch] 5)) w4) := V3.out.grown hgrow4 (by have := V3.out.size; simp at this; omega) (by simp); clear hown4 hgrow4 O3 V3))
  all_goals
    have hb4 : Hid (Below w.heap.size w w4) := ((Below.refl _ _).alloc (Nat.le_refl _) _).trans (V4.out.mono (by omega))
    have pc : w4.cell? ⟨w.heap.size, 0, none⟩ = some (.int .u8 ch) := (V4.out.cell (p := ⟨w.heap.size, 0, none⟩) (by simp)).trans (by simp)
    have HRL : Hid (IsRow w4 al ll cl zl) := row_later hrl.out hb4.out
    have HI4 : Hid (∀ j, j < 1 → w4.cell? ⟨w.heap.size + 1, 0 + j, none⟩ = some (.slice al ll cl)) := fun j hj => by
      obtain rfl : j = 0 := by omega
      rw [Nat.zero_add, O4.out.cellAt 0 (by omega)]; rfl
    clear O4 V4 hrl
    refine (search11_none _ _ ⟨w.heap.size, 0, none⟩ w4).mono ?_
    rintro e w5 ⟨rfl, hw5⟩
    subst w5
    go_wp2_with fail
    have hg0 := fb_bd zl ch ll
    refine (search11_any (w.heap.size + 1) 0 1 _ (fun _ => al) (fun _ => ll) (fun _ => cl) (fun _ => fb zl ch ll) ⟨w.heap.size, 0, none⟩ w4 (by omega) HI4 (fun j hj => clos_any _ _ _ _ ch _ _ HRL.out pc)
      (fun j hj => by
        have h1 := sm_le (fun _ => fb zl ch ll) (fun _ => ll) 1 (fun j _ => (fb_bd _ _ _).2) j hj
        have h2 := tot_mono (fun _ => ll) hj
        have h3 : tot (fun _ => ll) 1 = ll := by simp [tot]
        omega)).mono ?_
    rintro e w5 ⟨rfl, hw5⟩
    subst w5
    go_wp2_with fail
    refine (first_any al ll cl zl ch _ HRL.out).mono ?_
    rintro e w5 ⟨rfl, hw5⟩
    subst w5
    have ec : cnt (fun _ => fb zl ch ll) 1 = if 0 ≤ fb zl ch ll then 1 else 0 := by simp [cnt]
    have es : sm (fun _ => fb zl ch ll) 1 = if 0 ≤ fb zl ch ll then fb zl ch ll else 0 := by simp [sm]
    rw [ec, es]
    obtain ⟨x, hx⟩ : ∃ x, x = fb zl ch ll := ⟨_, rfl⟩
    rw [← hx] at hg0 ⊢
    clear hx ec es HI4 HRL
    by_cases hx0 : x < 0
    · rw [if_neg (by omega), if_neg (by omega)]
      go_wp2
      go_ret
      exact ⟨rfl, hb4.out⟩
    · rw [if_pos (by omega), if_pos (by omega)]
      have hx1 : 0 ≤ x := by omega
      go_wp2
      go_ret
      exact ⟨rfl, hb4.out⟩

set_option maxHeartbeats 2000000 in
set_option maxRecDepth 100000 in
/-- No line, the slice not nil. -/
theorem ins_empty (a : Addr) (cp : Nat) (q ch : Int) (al : Option Addr) (ll cl : Nat) (zl : Nat → Int) (w : World) (hrl : Hid (IsRow w al ll cl zl)) :
    Calls Try.prog 4 #[.slice (some a) 0 cp, .int .i64 q, .slice al ll cl, .int .u8 ch] w fun e w' => e = .returned (.bool true) ∧ Below w.heap.size w w' := by
  have hll : ll ≤ 9223372036854775807 := by have h := hrl.out; have h1 := h.1; have h2 := h.2.1; unfold maxLen at h2; omega
  obtain ⟨i0, hi, hz0, hz1, hz2⟩ := info_parts Try.info24
  have HI : Hid (Try.prog.info? 24 = some i0 ∧ i0.zero = some (.slice none 0 0) ∧ i0.size = 1 ∧ i0.bytes = 24) := ⟨hi, hz0, hz1, hz2⟩
  clear hi hz0 hz1 hz2
  go_enter Try.func4, Try.ntmps4
  go_wp2_with fail
  refine (bytes10_none (some a) cp q ch al ll cl (fun _ => 0) _ hll).mono ?_
  rintro e w' ⟨r, rfl, hw, hr1⟩
  subst w'
  clear hr1
  cases r
  · go_wp2
    go_ret
    exact ⟨rfl, (Below.refl _ _).alloc (Nat.le_refl _) _⟩
  by_cases hl2 : 65536 < ll
  · go_wp2
    go_ret
    exact ⟨rfl, (Below.refl _ _).alloc (Nat.le_refl _) _⟩
  go_wp2
  refine wp_loop_rounds 1 ?_
  rw [rounds_succ]
  by_cases hp0 : q < 0
  · go_wp2
    go_ret
    exact ⟨rfl, (Below.refl _ _).alloc (Nat.le_refl _) _⟩
  have hd2 : decide (q < 0) = false := by simp; omega
  by_cases hp1 : 0 < q
  · go_wp2
    go_ret
    exact ⟨rfl, (Below.refl _ _).alloc (Nat.le_refl _) _⟩
  obtain rfl : q = 0 := by omega
  clear hp0 hp1 hd2
  go_wp2_with (first
    | (at_make; refine wpList_make_own _ rfl _ _ 22 rfl (w.heap.size + 1) 24 i0 (.slice none 0 0) 1 Try.underlying22 HI.out.1 HI.out.2.1 HI.out.2.2.1 _ _ _ 1 rfl rfl (by omega) (by rw [HI.out.2.2.2]; omega) (by unfold maxLen; omega) (by simp) ?_; intro w1 hown1 hgrow1; have O1 : Hid (w1.ownsRow (w.heap.size + 1) 24 1 (.slice (some ⟨w.heap.size + 1, 0, none⟩) 0 1) 0 []) := (by unfold Hid; simpa using hown1); have V1 : Hid (Below (w.heap.size + 1) (w.alloc (.cells #[.int .u8 ch] 5)) w1) := (Below.refl _ _).grown hgrow1 (by simp) (by simp); clear hown1 hgrow1)
    | (at_builtin; refine wpList_append_fits_any _ rfl (.tmp 65) (.tmp 68) 22 rfl (w.heap.size + 1) 24 i0 1 Try.underlying22 HI.out.1 HI.out.2.2.1 (w.heap.size + 1) 0 1 [] rfl O1.out _ 0 _ [] rfl rfl (by intro h; first | cases h | (split at h <;> cases h)) (by intro ad _ j u hu; simp at hu) (by simp) (by omega) ?_; intro w2 hown2 hgrow2; have O2 : Hid (w2.ownsRow (w.heap.size + 1) 24 1 (.slice (some ⟨w.heap.size + 1, 0, none⟩) 0 1) 0 []) := hown2; have V2 : Hid (Below (w.heap.size + 1) (w.alloc (.cells #[.int .u8 ch] 5)) w2) := V1.out.grown hgrow2 (by have := V1.out.size; simp at this; omega) (by simp); clear hown2 hgrow2 O1 V1)
    | (at_builtin; refine wpList_append_fits _ rfl (.tmp 70) (.tmp 72) 22 rfl (w.heap.size + 1) 24 i0 1 Try.underlying22 HI.out.1 HI.out.2.2.1 (w.heap.size + 1) 0 1 _ rfl (O2.out.alloc _) ⟨w2.heap.size, 0, none⟩ 1 1 [.slice al ll cl] rfl rfl (by intro t u ht; match t, ht with | 0, ht => simp at ht; subst ht; simp [Addr.add]) (by intro u hu; simp at hu; subst hu; rfl) (by omega) ?_; intro w3 hown3 hgrow3; have O3 : Hid (w3.ownsRow (w.heap.size + 1) 24 1 (.slice (some ⟨w.heap.size + 1, 0, none⟩) 1 1) 1 [.slice al ll cl]) := hown3; have V3 : Hid (Below (w.heap.size + 1) (w.alloc (.cells #[.int .u8 ch] 5)) w3) := (V2.out.alloc (by have := V2.out.size; simp at this; omega) _).grown hgrow3 (by have := V2.out.size; simp at this; simp; omega) (by simp); clear hown3 hgrow3 O2 V2)
    | (at_builtin; refine wpList_append_fits_any _ rfl (.tmp 74) (.tmp 77) 22 rfl (w.heap.size + 1) 24 i0 1 Try.underlying22 HI.out.1 HI.out.2.2.1 (w.heap.size + 1) 1 1 _ rfl O3.out _ 0 _ [] rfl rfl (by intro h; first | cases h | (split at h <;> cases h)) (by intro ad _ j u hu; simp at hu) (by simp) (by omega) ?_; intro w4 hown4 hgrow4; have O4 : Hid (w4.ownsRow (w.heap.size + 1) 24 1 (.slice (some ⟨w.heap.size + 1, 0, none⟩) 1 1) 1 [.slice al ll cl]) := hown4; have V4 : Hid (Below (w.heap.size + 1) (w.alloc (.cells #[.int .u8 ch] 5)) w4) := V3.out.grown hgrow4 (by have := V3.out.size; simp at this; omega) (by simp); clear hown4 hgrow4 O3 V3))
  all_goals
    have hb4 : Hid (Below w.heap.size w w4) := ((Below.refl _ _).alloc (Nat.le_refl _) _).trans (V4.out.mono (by omega))
    have pc : w4.cell? ⟨w.heap.size, 0, none⟩ = some (.int .u8 ch) := (V4.out.cell (p := ⟨w.heap.size, 0, none⟩) (by simp)).trans (by simp)
    have HRL : Hid (IsRow w4 al ll cl zl) := row_later hrl.out hb4.out
    have HI4 : Hid (∀ j, j < 1 → w4.cell? ⟨w.heap.size + 1, 0 + j, none⟩ = some (.slice al ll cl)) := fun j hj => by
      obtain rfl : j = 0 := by omega
      rw [Nat.zero_add, O4.out.cellAt 0 (by omega)]; rfl
    clear O4 V4 hrl
    refine (search11_none _ _ ⟨w.heap.size, 0, none⟩ w4).mono ?_
    rintro e w5 ⟨rfl, hw5⟩
    subst w5
    go_wp2_with fail
    have hg0 := fb_bd zl ch ll
    refine (search11_any (w.heap.size + 1) 0 1 _ (fun _ => al) (fun _ => ll) (fun _ => cl) (fun _ => fb zl ch ll) ⟨w.heap.size, 0, none⟩ w4 (by omega) HI4 (fun j hj => clos_any _ _ _ _ ch _ _ HRL.out pc)
      (fun j hj => by
        have h1 := sm_le (fun _ => fb zl ch ll) (fun _ => ll) 1 (fun j _ => (fb_bd _ _ _).2) j hj
        have h2 := tot_mono (fun _ => ll) hj
        have h3 : tot (fun _ => ll) 1 = ll := by simp [tot]
        omega)).mono ?_
    rintro e w5 ⟨rfl, hw5⟩
    subst w5
    go_wp2_with fail
    refine (first_any al ll cl zl ch _ HRL.out).mono ?_
    rintro e w5 ⟨rfl, hw5⟩
    subst w5
    have ec : cnt (fun _ => fb zl ch ll) 1 = if 0 ≤ fb zl ch ll then 1 else 0 := by simp [cnt]
    have es : sm (fun _ => fb zl ch ll) 1 = if 0 ≤ fb zl ch ll then fb zl ch ll else 0 := by simp [sm]
    rw [ec, es]
    obtain ⟨x, hx⟩ : ∃ x, x = fb zl ch ll := ⟨_, rfl⟩
    rw [← hx] at hg0 ⊢
    clear hx ec es HI4 HRL
    by_cases hx0 : x < 0
    · rw [if_neg (by omega), if_neg (by omega)]
      go_wp2
      go_ret
      exact ⟨rfl, hb4.out⟩
    · rw [if_pos (by omega), if_pos (by omega)]
      have hx1 : 0 ≤ x := by omega
      go_wp2
      go_ret
      exact ⟨rfl, hb4.out⟩

end Go.Proofs.Qxb6613369a.SL
