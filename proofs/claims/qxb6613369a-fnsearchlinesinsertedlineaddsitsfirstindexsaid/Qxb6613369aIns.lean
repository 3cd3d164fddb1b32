/-
  FnSearchLinesInsertedLineAddsItsFirstIndex: the walk.
-/
import Derived.Test.Qxb6613369aFirst
import Derived.OwnWalk
import Derived.Test.Qxb6613369aPlain2
namespace Go.Proofs.Qxb6613369a.SL
open Go.ChangeShapes Go.WideShapes Go.ChangeAt Go.RowKit
open Plain
set_option linter.unusedVariables false

theorem Try.info24 : (Try.prog.info? 24).map (fun i => (i.zero, i.size, i.bytes)) = some (some (.slice none 0 0), 1, 24) := by kernel_rfl

theorem row_later {w w' : World} {a : Option Addr} {n c : Nat} {z : Nat → Int} (h : IsRow w a n c z) (hb : Below w.heap.size w w') : IsRow w' a n c z :=
  ⟨h.1, h.2.1, h.2.2.1, fun x hx j hj => cell_later hb (h.2.2.2 x hx j hj)⟩

set_option maxHeartbeats 1000000 in
theorem bytes10 (b off n c : Nat) (q ch : Int) (al : Option Addr) (ll cl : Nat) (A : Nat → Option Addr) (L C : Nat → Nat) (w : World)
    (hc : Hid (∀ i, i < n → w.cell? ⟨b, off + i, none⟩ = some (.slice (A i) (L i) (C i)))) (hl : Hid (∀ i, i < n → L i ≤ 9223372036854775807)) (hn : n ≤ 9223372036854775807) (hll : ll ≤ 9223372036854775807) :
    Calls Try.prog 10 #[.slice (some ⟨b, off, none⟩) n c, .int .i64 q, .slice al ll cl, .int .u8 ch] w (BytesOut n L w) := by
  by_cases hn1 : 1048576 < n
  · go_enter Try.func10, Try.ntmps10
    go_wp2
    go_ret
    exact ⟨false, rfl, rfl, by simp⟩
  · go_enter Try.func10, Try.ntmps10
    go_wp2
    go_loop [9, 10] (fun z i => ∃ k y : Nat, k ≤ n ∧ y ≤ 1048576 ∧ i = .int .i64 k ∧ z = .int .i64 y ∧ ∀ j, j < k → L j ≤ 1048576) (fun _ i => n - (intOf i).toNat)
    case atStart => exact ⟨0, n, Nat.zero_le _, by omega, rfl, rfl, fun j hj => absurd hj (Nat.not_lt_zero _)⟩
    case round =>
      obtain ⟨k, y, hk, hy, rfl, rfl, hall⟩ := hrel
      have HA : Hid (∀ j, j < k → L j ≤ 1048576) := hall
      clear hall
      by_cases hlt : k < n
      · have e1 := hc.out k hlt
        have hxk := hl.out k hlt
        by_cases hb : 1048576 < L k
        · go_wp2
          go_ret
          exact ⟨false, rfl, rfl, by simp⟩
        · by_cases hc : 1048576 < y + L k
          · go_wp2
            go_ret
            exact ⟨false, rfl, rfl, by simp⟩
          · go_wp2
            go_round
            case rel =>
              refine ⟨k + 1, y + L k, by omega, by omega, by go_num, by go_num, fun j hj => ?_⟩
              by_cases e : j = k
              · subst e; omega
              · exact HA.out j (by omega)
            case measure => simp [intOf]; omega
      · have hkn : k = n := by omega
        subst hkn
        by_cases hb : 1048576 < ll
        · go_wp2
          go_ret
          exact ⟨false, rfl, rfl, by simp⟩
        · by_cases hc : 1048576 < y + ll
          · go_wp2
            go_ret
            exact ⟨false, rfl, rfl, by simp⟩
          · go_wp2
            go_ret
            exact ⟨true, rfl, rfl, fun _ => HA.out⟩

theorem bytes10_none (ao : Option Addr) (c : Nat) (q ch : Int) (al : Option Addr) (ll cl : Nat) (L : Nat → Nat) (w : World) (hll : ll ≤ 9223372036854775807) :
    Calls Try.prog 10 #[.slice ao 0 c, .int .i64 q, .slice al ll cl, .int .u8 ch] w (BytesOut 0 L w) := by
  by_cases hb : 1048576 < ll
  · go_enter Try.func10, Try.ntmps10
    go_wp2
    refine wp_loop_rounds 1 ?_
    rw [rounds_succ]
    go_wp2
    go_ret
    exact ⟨false, rfl, rfl, by simp⟩
  · go_enter Try.func10, Try.ntmps10
    go_wp2
    refine wp_loop_rounds 1 ?_
    rw [rounds_succ]
    go_wp2
    go_ret
    exact ⟨true, rfl, rfl, fun _ i hi => absurd hi (Nat.not_lt_zero _)⟩

theorem ret_true {b : Bool} (h : b = true) : Ending.returned (.bool b) = .returned (.bool true) := by rw [h]

/-- Line j's header. -/
def hd (A : Nat → Option Addr) (L C : Nat → Nat) (j : Nat) : Value := .slice (A j) (L j) (C j)

theorem news_at {v : World} {b o m : Nat} {A : Nat → Option Addr} {L C : Nat → Nat} {t : Nat} {ao : Option Addr} (hao : 0 < m → ao = some ⟨b, o, none⟩) (h : ∀ j, j < m → v.cell? ⟨b, o + j, none⟩ = some (.slice (A (t + j)) (L (t + j)) (C (t + j)))) :
    ∀ ad, ao = some ad → ∀ j u, ((List.range m).map fun j => hd A L C (t + j))[j]? = some u → v.cell? (ad.add j) = some u := by
  intro ad had j u hu
  have hj : j < m := by
    have := (List.getElem?_eq_some_iff.1 hu).1
    simpa using this
  rw [hao (by omega)] at had
  obtain rfl := Option.some.inj had
  rw [add_plain, h j hj]
  simpa [hj, hd] using hu

theorem news_one {m : Nat} {A : Nat → Option Addr} {L C : Nat → Nat} {t : Nat} : ∀ u ∈ ((List.range m).map fun j => hd A L C (t + j)), u.oneCell' = true := by
  intro u hu
  obtain ⟨j, _, rfl⟩ := List.mem_map.1 hu
  rfl

/-- What the lines with the one put in read as. -/
theorem ins_cells {v : World} {g p m : Nat} {cap : Nat} {A : Nat → Option Addr} {L C : Nat → Nat} {al : Option Addr} {ll cl base : Nat}
    (O : v.ownsRow base 24 1 (.slice (some ⟨g, 0, none⟩) (p + 1 + m) cap) (p + 1 + m) (((List.range p).map fun j => hd A L C j) ++ [.slice al ll cl] ++ ((List.range m).map fun j => hd A L C (p + j)))) :
    ∀ j, j < p + 1 + m → v.cell? ⟨g, 0 + j, none⟩ = some (.slice (ix A al p j) (ix L ll p j) (ix C cl p j)) := by
  refine ix_all (fun j hj => ?_) ?_ (fun j hj => ?_)
  · rw [Nat.zero_add, O.cellAt j (by omega), ix_lt _ _ hj, ix_lt _ _ hj, ix_lt _ _ hj, List.append_assoc, List.getElem?_append_left (by simpa using hj)]
    simp [hj, hd]
  · rw [Nat.zero_add, O.cellAt p (by omega), ix_at, ix_at, ix_at, List.append_assoc, List.getElem?_append_right (by simp)]
    simp
  · rw [Nat.zero_add, O.cellAt (p + 1 + j) (by omega), ix_gt, ix_gt, ix_gt, List.getElem?_append_right (by simp)]
    simp [hd, hj]

/-- What both searches come to. -/
theorem both {G : Nat → Int} {x : Int} {p m k : Nat} (hk : p + m = k) : (0 ≤ x → (cnt (ix G x p) (p + 1 + m) : Int) = cnt G k + 1 ∧ sm (ix G x p) (p + 1 + m) = sm G k + x) ∧ (x < 0 → cnt (ix G x p) (p + 1 + m) = cnt G k ∧ sm (ix G x p) (p + 1 + m) = sm G k) := by
  subst hk
  rw [cnt_ix, sm_ix]
  refine ⟨fun h => ?_, fun h => ?_⟩
  · rw [if_pos h, if_pos h]; exact ⟨by omega, rfl⟩
  · rw [if_neg (by omega), if_neg (by omega)]; exact ⟨by omega, by omega⟩

set_option maxHeartbeats 2000000 in
set_option maxRecDepth 100000 in
theorem ins_some (b off n cp : Nat) (q ch : Int) (al : Option Addr) (ll cl : Nat) (zl : Nat → Int) (A : Nat → Option Addr) (L C : Nat → Nat) (Z : Nat → Nat → Int) (w : World) (hn0 : 0 < n) (hnc : n ≤ cp) (hcm : cp ≤ 9223372036854775807)
    (hc : Hid (∀ i, i < n → w.cell? ⟨b, off + i, none⟩ = some (.slice (A i) (L i) (C i)))) (hr : Hid (∀ i, i < n → IsRow w (A i) (L i) (C i) (Z i))) (hrl : Hid (IsRow w al ll cl zl)) :
    Calls Try.prog 4 #[.slice (some ⟨b, off, none⟩) n cp, .int .i64 q, .slice al ll cl, .int .u8 ch] w fun e w' => e = .returned (.bool true) ∧ Below w.heap.size w w' := by
  have hl : Hid (∀ i, i < n → L i ≤ 9223372036854775807) := fun i hi => by have h := hr.out i hi; have h1 := h.1; have h2 := h.2.1; unfold maxLen at h2; omega
  have hll : ll ≤ 9223372036854775807 := by have h := hrl.out; have h1 := h.1; have h2 := h.2.1; unfold maxLen at h2; omega
  have hbs : b < w.heap.size := World.block_lt_of_cell? w _ (hc.out 0 hn0)
  have HC0 : Hid (∀ i, i < n → (w.alloc (.cells #[.int .u8 ch] 5)).cell? ⟨b, off + i, none⟩ = some (.slice (A i) (L i) (C i))) := fun i hi => (World.cell?_alloc_past _ _ _ hbs).trans (hc.out i hi)
  obtain ⟨i0, hi, hz0, hz1, hz2⟩ := info_parts Try.info24
  have HI : Hid (Try.prog.info? 24 = some i0 ∧ i0.zero = some (.slice none 0 0) ∧ i0.size = 1 ∧ i0.bytes = 24) := ⟨hi, hz0, hz1, hz2⟩
  clear hi hz0 hz1 hz2
  go_enter Try.func4, Try.ntmps4
  go_wp2_with fail
  refine (bytes10 b off n cp q ch al ll cl A L C _ HC0 hl (by omega) hll).mono ?_
  rintro e w' ⟨r, rfl, hw, hr1⟩
  subst w'
  cases r
  · clear hr1
    go_wp2
    go_ret
    exact ⟨rfl, (Below.refl _ _).alloc (Nat.le_refl _) _⟩
  have HL : Hid (∀ i, i < n → L i ≤ 1048576) := hr1 rfl
  clear hr1
  by_cases hl1 : 65536 < n
  · go_wp2
    go_ret
    exact ⟨rfl, (Below.refl _ _).alloc (Nat.le_refl _) _⟩
  have hd1 : decide ((65536 : Int) < (n : Int)) = false := by simp; omega
  by_cases hl2 : 65536 < ll
  · go_wp2
    go_ret
    exact ⟨rfl, (Below.refl _ _).alloc (Nat.le_refl _) _⟩
  go_wp2
  go_loop [9, 41] (fun z i => ∃ k : Nat, k ≤ n ∧ 8 * n + ll + tot L k ≤ 2000000 ∧ (k = 0 ∨ 8 * n + ll + tot L k ≤ 1048576) ∧ i = .int .i64 k ∧ z = .int .i64 (8 * (n : Int) + ll + (tot L k : Nat))) (fun _ i => n - (intOf i).toNat)
  case atStart => exact ⟨0, Nat.zero_le _, by simp [tot]; omega, .inl rfl, rfl, by simp [tot]⟩
  case round =>
    obtain ⟨k, hk, hy, hy2, rfl, rfl⟩ := hrel
    have HY2 : Hid (k = 0 ∨ 8 * n + ll + tot L k ≤ 1048576) := hy2
    clear hy2
    by_cases hlt : k < n
    · have e1 := HC0.out k hlt
      have hxk := HL.out k hlt
      have ET : Hid (tot L (k + 1) = tot L k + L k) := rfl
      by_cases hb : 1048576 < 8 * n + ll + tot L k + L k
      · go_wp2
        go_ret
        exact ⟨rfl, (Below.refl _ _).alloc (Nat.le_refl _) _⟩
      · go_wp2
        go_round
        case rel => exact ⟨k + 1, by omega, by rw [ET.out]; omega, .inr (by rw [ET.out]; omega), by go_num, by rw [ET.out]; go_num⟩
        case measure => simp [intOf]; omega
    · obtain rfl : k = n := by omega
      by_cases hp0 : q < 0
      · go_wp2
        go_ret
        exact ⟨rfl, (Below.refl _ _).alloc (Nat.le_refl _) _⟩
      have hd2 : decide (q < 0) = false := by simp; omega
      by_cases hp1 : (k : Int) < q
      · go_wp2
        go_ret
        exact ⟨rfl, (Below.refl _ _).alloc (Nat.le_refl _) _⟩
      obtain ⟨p, hp⟩ : ∃ p : Nat, q = (p : Int) := ⟨q.toNat, by omega⟩
      subst hp
      have hpk : p ≤ k := by omega
      have B0 : Hid (∀ v, Below (w.heap.size + 1) (w.alloc (.cells #[.int .u8 ch] 5)) v → ∀ i, i < k → v.cell? ⟨b, off + i, none⟩ = some (.slice (A i) (L i) (C i))) := fun v hv i hi => (hv.cell (p := ⟨b, off + i, none⟩) (by simp; omega)).trans (HC0.out i hi)
      go_wp2_with (first
        | (at_make; refine wpList_make_own _ rfl _ _ 22 rfl (w.heap.size + 1) 24 i0 (.slice none 0 0) 1 Try.underlying22 HI.out.1 HI.out.2.1 HI.out.2.2.1 _ _ _ (k + 1) rfl rfl (by omega) (by rw [HI.out.2.2.2]; omega) (by unfold maxLen; omega) (by simp) ?_; intro w1 hown1 hgrow1; have O1 : Hid (w1.ownsRow (w.heap.size + 1) 24 1 (.slice (some ⟨w.heap.size + 1, 0, none⟩) 0 (k + 1)) 0 []) := (by unfold Hid; simpa using hown1); have V1 : Hid (Below (w.heap.size + 1) (w.alloc (.cells #[.int .u8 ch] 5)) w1) := (Below.refl _ _).grown hgrow1 (by simp) (by simp); clear hown1 hgrow1)
        | (at_builtin; refine wpList_append_fits_any _ rfl (.tmp 65) (.tmp 68) 22 rfl (w.heap.size + 1) 24 i0 1 Try.underlying22 HI.out.1 HI.out.2.2.1 (w.heap.size + 1) 0 (k + 1) [] rfl O1.out _ p _ ((List.range p).map fun j => hd A L C (0 + j)) rfl (by simp) (by intro h; cases h) (news_at (fun _ => rfl) (fun j hj => by have := B0.out _ V1.out j (by omega); rw [Nat.zero_add]; exact this)) news_one (by omega) ?_; intro w2 hown2 hgrow2; have O2 : Hid (w2.ownsRow (w.heap.size + 1) 24 1 (.slice (some ⟨w.heap.size + 1, 0, none⟩) p (k + 1)) p ((List.range p).map fun j => hd A L C j)) := (by unfold Hid; simpa only [Nat.zero_add, List.nil_append] using hown2); have V2 : Hid (Below (w.heap.size + 1) (w.alloc (.cells #[.int .u8 ch] 5)) w2) := V1.out.grown hgrow2 (by have := V1.out.size; simp at this; omega) (by simp); clear hown2 hgrow2 O1 V1)
        | (at_builtin; refine wpList_append_fits _ rfl (.tmp 70) (.tmp 72) 22 rfl (w.heap.size + 1) 24 i0 1 Try.underlying22 HI.out.1 HI.out.2.2.1 (w.heap.size + 1) p (k + 1) _ rfl (O2.out.alloc _) ⟨w2.heap.size, 0, none⟩ 1 1 [.slice al ll cl] rfl rfl (by intro t u ht; match t, ht with | 0, ht => simp at ht; subst ht; simp [Addr.add]) (by intro u hu; simp at hu; subst hu; rfl) (by omega) ?_; intro w3 hown3 hgrow3; have O3 : Hid (w3.ownsRow (w.heap.size + 1) 24 1 (.slice (some ⟨w.heap.size + 1, 0, none⟩) (p + 1) (k + 1)) (p + 1) (((List.range p).map fun j => hd A L C j) ++ [.slice al ll cl])) := hown3; have V3 : Hid (Below (w.heap.size + 1) (w.alloc (.cells #[.int .u8 ch] 5)) w3) := (V2.out.alloc (by have := V2.out.size; simp at this; omega) _).grown hgrow3 (by have := V2.out.size; simp at this; simp; omega) (by simp); clear hown3 hgrow3 O2 V2)
        | (at_builtin; refine wpList_append_fits_any _ rfl (.tmp 74) (.tmp 77) 22 rfl (w.heap.size + 1) 24 i0 1 Try.underlying22 HI.out.1 HI.out.2.2.1 (w.heap.size + 1) (p + 1) (k + 1) _ rfl O3.out _ (k - p) _ ((List.range (k - p)).map fun j => hd A L C (p + j)) rfl (by simp) (by intro h; first | cases h | (split at h <;> cases h)) (news_at (by intro h; first | rfl | rw [if_neg (by omega)]) (fun j hj => by have := B0.out _ V3.out (p + j) (by omega); rw [Nat.add_assoc]; exact this)) news_one (by omega) ?_; intro w4 hown4 hgrow4; have O4 : Hid (w4.ownsRow (w.heap.size + 1) 24 1 (.slice (some ⟨w.heap.size + 1, 0, none⟩) (p + 1 + (k - p)) (k + 1)) (p + 1 + (k - p)) (((List.range p).map fun j => hd A L C j) ++ [.slice al ll cl] ++ ((List.range (k - p)).map fun j => hd A L C (p + j)))) := hown4; have V4 : Hid (Below (w.heap.size + 1) (w.alloc (.cells #[.int .u8 ch] 5)) w4) := V3.out.grown hgrow4 (by have := V3.out.size; simp at this; omega) (by simp); clear hown4 hgrow4 O3 V3))
      all_goals
        have hb4 : Hid (Below w.heap.size w w4) := ((Below.refl _ _).alloc (Nat.le_refl _) _).trans (V4.out.mono (by omega))
        have pc : w4.cell? ⟨w.heap.size, 0, none⟩ = some (.int .u8 ch) := (V4.out.cell (p := ⟨w.heap.size, 0, none⟩) (by simp)).trans (by simp)
        have HR4 : Hid (∀ i, i < k → IsRow w4 (A i) (L i) (C i) (Z i)) := fun i hi => row_later (hr.out i hi) hb4.out
        have HRL : Hid (IsRow w4 al ll cl zl) := row_later hrl.out hb4.out
        have HC4 : Hid (∀ i, i < k → w4.cell? ⟨b, off + i, none⟩ = some (.slice (A i) (L i) (C i))) := B0.out _ V4.out
        have HI4 : Hid (∀ j, j < p + 1 + (k - p) → w4.cell? ⟨w.heap.size + 1, 0 + j, none⟩ = some (.slice (ix A al p j) (ix L ll p j) (ix C cl p j))) := ins_cells O4.out
        clear O4 V4 HC0 B0 hc hr hrl
        refine (search11_any b off k _ A L C (fun j => fb (Z j) ch (L j)) ⟨w.heap.size, 0, none⟩ w4 (by omega) HC4 (fun i hi => clos_any _ _ _ _ ch _ _ (HR4.out i hi) pc) (fun j hj => by
          have h1 := sm_le (fun j => fb (Z j) ch (L j)) L k (fun j _ => (fb_bd _ _ _).2) j hj
          have h2 := tot_mono L hj
          omega)).mono ?_
        rintro e w5 ⟨rfl, hw5⟩
        subst w5
        go_wp2_with fail
        have HTI := tot_ix L ll p (k - p)
        rw [show p + (k - p) = k from by omega] at HTI
        refine (search11_any (w.heap.size + 1) 0 (p + 1 + (k - p)) _ (ix A al p) (ix L ll p) (ix C cl p) (ix (fun j => fb (Z j) ch (L j)) (fb zl ch ll) p) ⟨w.heap.size, 0, none⟩ w4 (by omega) HI4
          (ix_all (fun j hj => by rw [ix_lt _ _ hj, ix_lt _ _ hj, ix_lt _ _ hj, ix_lt _ _ hj]; exact clos_any _ _ _ _ ch _ _ (HR4.out j (by omega)) pc) (by rw [ix_at, ix_at, ix_at, ix_at]; exact clos_any _ _ _ _ ch _ _ HRL.out pc) (fun j hj => by rw [ix_gt, ix_gt, ix_gt, ix_gt]; exact clos_any _ _ _ _ ch _ _ (HR4.out (p + j) (by omega)) pc))
          (fun j hj => by
            have h1 := sm_le (ix (fun j => fb (Z j) ch (L j)) (fb zl ch ll) p) (ix L ll p) (p + 1 + (k - p)) (ix_all (fun j hj => by rw [ix_lt _ _ hj, ix_lt _ _ hj]; exact (fb_bd _ _ _).2) (by rw [ix_at, ix_at]; exact (fb_bd _ _ _).2) (fun j hj => by rw [ix_gt, ix_gt]; exact (fb_bd _ _ _).2)) j hj
            have h2 := tot_mono (ix L ll p) hj
            omega)).mono ?_
        rintro e w5 ⟨rfl, hw5⟩
        subst w5
        clear HTI
        go_wp2_with fail
        refine (first_any al ll cl zl ch _ HRL.out).mono ?_
        rintro e w5 ⟨rfl, hw5⟩
        subst w5
        have hbt := both (G := fun j => fb (Z j) ch (L j)) (x := fb zl ch ll) (show p + (k - p) = k from by omega)
        have hc0 := cnt_le (fun j => fb (Z j) ch (L j)) k
        have hs0 := sm_nonneg (fun j => fb (Z j) ch (L j)) k
        have hs1 : sm (fun j => fb (Z j) ch (L j)) k ≤ 2000000 := by
          have h1 := sm_le (fun j => fb (Z j) ch (L j)) L k (fun j _ => (fb_bd _ _ _).2) k (Nat.le_refl _)
          omega
        have hg0 := fb_bd zl ch ll
        obtain ⟨x, hx⟩ : ∃ x, x = fb zl ch ll := ⟨_, rfl⟩
        obtain ⟨c0, hc0'⟩ : ∃ c0, c0 = cnt (fun j => fb (Z j) ch (L j)) k := ⟨_, rfl⟩
        obtain ⟨s0, hs0'⟩ : ∃ s0, s0 = sm (fun j => fb (Z j) ch (L j)) k := ⟨_, rfl⟩
        rw [← hx] at hbt hg0 ⊢
        rw [← hc0', ← hs0'] at hbt
        rw [← hc0'] at hc0
        rw [← hs0'] at hs0 hs1
        rw [← hc0', ← hs0']
        obtain ⟨c1, hc1'⟩ : ∃ c1, c1 = cnt (ix (fun j => fb (Z j) ch (L j)) x p) (p + 1 + (k - p)) := ⟨_, rfl⟩
        obtain ⟨s1, hs1'⟩ : ∃ s1, s1 = sm (ix (fun j => fb (Z j) ch (L j)) x p) (p + 1 + (k - p)) := ⟨_, rfl⟩
        rw [← hc1', ← hs1'] at hbt ⊢
        clear hx hc0' hs0' hc1' hs1' HC4 HI4 HR4 HRL
        by_cases hx0 : x < 0
        · obtain ⟨rfl, rfl⟩ := hbt.2 hx0
          clear hbt
          go_wp2
          go_ret
          exact ⟨rfl, hb4.out⟩
        · obtain ⟨g1, g2⟩ := hbt.1 (by omega)
          have k1 : (c1 : Int) ≤ c0 + 1 := by omega
          have k2 : (c0 : Int) + 1 ≤ c1 := by omega
          have k3 : s1 ≤ s0 + x := by omega
          have k4 : s0 + x ≤ s1 := by omega
          clear hbt g1 g2
          go_wp2
          go_ret
          exact ⟨ret_true (by rw [beq_iff_eq]; omega), hb4.out⟩
end Go.Proofs.Qxb6613369a.SL
