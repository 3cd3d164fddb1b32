/-
  FnSearchLinesCutAddsUp: the walk.
-/
import Derived.Test.Qxb6613369aSearch
namespace Go.Proofs.Qxb6613369a.SL
open Go.ChangeShapes Go.WideShapes Go.ChangeAt Go.RowKit
open Plain
set_option linter.unusedVariables false

/-- What zzBytes answers: some bool, the world as it was; and where it is true every line is at most 1<<20 bytes long. -/
def BytesOut (n : Nat) (L : Nat → Nat) (w : World) (e : Ending) (w' : World) : Prop :=
  ∃ r : Bool, e = .returned (.bool r) ∧ w' = w ∧ (r = true → ∀ i, i < n → L i ≤ 1048576)

set_option maxHeartbeats 1000000 in
theorem bytes7 (b off n c : Nat) (q : Int) (A : Nat → Option Addr) (L C : Nat → Nat) (w : World)
    (hc : Hid (∀ i, i < n → w.cell? ⟨b, off + i, none⟩ = some (.slice (A i) (L i) (C i)))) (hl : Hid (∀ i, i < n → L i ≤ 9223372036854775807)) (hn : n ≤ 9223372036854775807) :
    Calls Try.prog 7 #[.slice (some ⟨b, off, none⟩) n c, .int .i64 q] w (BytesOut n L w) := by
  by_cases hn1 : 1048576 < n
  · go_enter Try.func7, Try.ntmps7
    go_wp2
    go_ret
    exact ⟨false, rfl, rfl, by simp⟩
  · go_enter Try.func7, Try.ntmps7
    go_wp2
    go_loop [5, 6] (fun z i => ∃ k y : Nat, k ≤ n ∧ y ≤ 1048576 ∧ i = .int .i64 k ∧ z = .int .i64 y ∧ ∀ j, j < k → L j ≤ 1048576) (fun _ i => n - (intOf i).toNat)
    case atStart => exact ⟨0, n, Nat.zero_le _, by omega, rfl, rfl, fun j hj => absurd hj (Nat.not_lt_zero _)⟩
    case round =>
      obtain ⟨k, y, hk, hy, rfl, rfl, hall⟩ := hrel
      have HA : Hid (∀ j, j < k → L j ≤ 1048576) := hall
      clear hall
      by_cases hlt : k < n
      · have e1 := hc.out k hlt
        have hxk := hl.out k hlt
        by_cases hb : 1048576 < L k
        · go_wp2
          go_ret
          exact ⟨false, rfl, rfl, by simp⟩
        · by_cases hc : 1048576 < y + L k
          · go_wp2
            go_ret
            exact ⟨false, rfl, rfl, by simp⟩
          · go_wp2
            go_round
            case rel =>
              refine ⟨k + 1, y + L k, by omega, by omega, by go_num, by go_num, fun j hj => ?_⟩
              by_cases e : j = k
              · subst e; omega
              · exact HA.out j (by omega)
            case measure => simp [intOf]; omega
      · have hkn : k = n := by omega
        subst hkn
        go_wp2
        go_ret
        exact ⟨true, rfl, rfl, fun _ => HA.out⟩

set_option maxHeartbeats 2000000 in
theorem cut_some (b off n c : Nat) (q : Int) (A : Nat → Option Addr) (L C : Nat → Nat) (w : World) (hn0 : 0 < n) (hnc : n ≤ c) (hcm : c ≤ 9223372036854775807)
    (hc : Hid (∀ i, i < n → w.cell? ⟨b, off + i, none⟩ = some (.slice (A i) (L i) (C i)))) (hl : Hid (∀ i, i < n → L i ≤ 9223372036854775807)) :
    Calls Try.prog 3 #[.slice (some ⟨b, off, none⟩) n c, .int .i64 q] w fun e w' => e = .returned (.bool true) ∧ w' = w := by
  go_enter Try.func3, Try.ntmps3
  go_wp2_with fail
  refine (bytes7 b off n c q A L C w hc hl (by omega)).mono ?_
  rintro e w' ⟨r, rfl, hw, hr⟩
  subst w'
  cases r
  · clear hr
    go_wp2
    go_ret
    exact ⟨rfl, rfl⟩
  have HL : Hid (∀ i, i < n → L i ≤ 1048576) := hr rfl
  clear hr
  by_cases hl1 : 65536 < n
  · go_wp2
    go_ret
    exact ⟨rfl, rfl⟩
  go_wp2
  go_loop [5, 6, 27] (fun z y i => ∃ k : Nat, k ≤ n ∧ 8 * n + tot L k ≤ 1048576 ∧ i = .int .i64 k ∧ z = .int .i64 (8 * (n : Int) + (tot L k : Nat)) ∧ y = .int .i64 (tot L k : Nat)) (fun _ _ i => n - (intOf i).toNat)
  case atStart => exact ⟨0, Nat.zero_le _, by simp [tot]; omega, rfl, by simp [tot], by simp [tot]⟩
  case round =>
    obtain ⟨k, hk, hy, rfl, rfl, rfl⟩ := hrel
    by_cases hlt : k < n
    · have e1 := hc.out k hlt
      have hxk := HL.out k hlt
      have ET : Hid (tot L (k + 1) = tot L k + L k) := rfl
      by_cases hb : 1048576 < 8 * n + tot L k + L k
      · go_wp2
        go_ret
        exact ⟨rfl, rfl⟩
      · go_wp2
        go_round
        case rel => exact ⟨k + 1, by omega, by rw [ET.out]; omega, by go_num, by rw [ET.out]; go_num, by rw [ET.out]; go_num⟩
        case measure => simp [intOf]; omega
    · obtain rfl : k = n := by omega
      by_cases hp0 : q < 0
      · go_wp2
        go_ret
        exact ⟨rfl, rfl⟩
      have hd2 : decide (q < 0) = false := by simp; omega
      by_cases hp1 : (k : Int) < q
      · go_wp2
        go_ret
        exact ⟨rfl, rfl⟩
      obtain ⟨p, hp⟩ : ∃ p : Nat, q = (p : Int) := ⟨q.toNat, by omega⟩
      subst hp
      have hpk : p ≤ k := by omega
      go_wp2_with fail
      refine (search9_any b off k c A L C (fun j => (L j : Int)) w (by omega) hc (fun i hi => last_any _ _ _ _) (fun j hj => by rw [sm_len]; have := tot_mono L hj; omega)).mono ?_
      rintro e w' ⟨rfl, hw'⟩
      subst w'
      rw [cnt_len, sm_len]
      go_wp2_with fail
      have hmono := tot_mono L hpk
      refine (search9_any b off p c A L C (fun j => (L j : Int)) w (by omega) (fun i hi => hc.out i (by omega)) (fun i hi => last_any _ _ _ _) (fun j hj => by rw [sm_len]; have := tot_mono L hj; omega)).mono ?_
      rintro e w' ⟨rfl, hw'⟩
      subst w'
      rw [cnt_len, sm_len]
      have hsp := tot_split L p (k - p)
      rw [show p + (k - p) = k from by omega] at hsp
      by_cases hpc : p < c
      · have hle1 : tot L p + tot (fun j => L (p + j)) (k - p) ≤ tot L k := by omega
        have hle2 : tot L k ≤ tot L p + tot (fun j => L (p + j)) (k - p) := by omega
        clear hsp
        go_wp2_with fail
        refine (search9_any b (off + p) (k - p) (c - p) (fun j => A (p + j)) (fun j => L (p + j)) (fun j => C (p + j)) (fun j => (L (p + j) : Int)) w (by omega) (fun i hi => by have := hc.out (p + i) (by omega); rw [Nat.add_assoc]; exact this) (fun i hi => last_any _ _ _ _)
          (fun j hj => by rw [sm_len (fun j => L (p + j))]; have := tot_mono (fun j => L (p + j)) hj; omega)).mono ?_
        rintro e w' ⟨rfl, hw'⟩
        subst w'
        rw [cnt_len (fun j => L (p + j)), sm_len (fun j => L (p + j))]
        obtain ⟨t, ht⟩ : ∃ t, t = tot (fun j => L (p + j)) (k - p) := ⟨_, rfl⟩
        rw [← ht] at hle1 hle2 ⊢
        clear ht
        go_wp2
        go_ret
        exact ⟨rfl, rfl⟩
      · obtain rfl : p = k := by omega
        obtain rfl : p = c := by omega
        clear hsp
        go_wp2_with fail
        refine (search9_none _ _ w).mono ?_
        rintro e w' ⟨rfl, hw'⟩
        subst w'
        go_wp2
        go_ret
        exact ⟨rfl, rfl⟩

theorem bytes7_none (ao : Option Addr) (c : Nat) (q : Int) (w : World) :
    Calls Try.prog 7 #[.slice ao 0 c, .int .i64 q] w fun e w' => e = .returned (.bool true) ∧ w' = w := by
  go_enter Try.func7, Try.ntmps7
  go_wp2
  refine wp_loop_rounds 1 ?_
  rw [rounds_succ]
  go_wp2
  go_ret
  exact ⟨rfl, rfl⟩

set_option maxHeartbeats 1000000 in
/-- No line, the slice nil. -/
theorem cut_nil (q : Int) (w : World) :
    Calls Try.prog 3 #[.slice none 0 0, .int .i64 q] w fun e w' => e = .returned (.bool true) ∧ w' = w := by
  go_enter Try.func3, Try.ntmps3
  go_wp2_with fail
  refine (bytes7_none none 0 q w).mono ?_
  rintro e w' ⟨rfl, hw⟩
  subst w'
  go_wp2
  refine wp_loop_rounds 1 ?_
  rw [rounds_succ]
  by_cases hp0 : q < 0
  · go_wp2
    go_ret
    exact ⟨rfl, rfl⟩
  have hd2 : decide (q < 0) = false := by simp; omega
  by_cases hp1 : 0 < q
  · go_wp2
    go_ret
    exact ⟨rfl, rfl⟩
  obtain rfl : q = 0 := by omega
  clear hp0 hp1 hd2
  go_wp2_with fail
  refine (search9_none _ _ w).mono ?_
  rintro e w' ⟨rfl, hw'⟩
  subst w'
  go_wp2_with fail
  refine (search9_none _ _ w).mono ?_
  rintro e w' ⟨rfl, hw'⟩
  subst w'
  go_wp2_with fail
  refine (search9_none _ _ w).mono ?_
  rintro e w' ⟨rfl, hw'⟩
  subst w'
  go_wp2
  go_ret
  exact ⟨rfl, rfl⟩

set_option maxHeartbeats 1000000 in
/-- No line, the slice not nil. -/
theorem cut_empty (a : Addr) (c : Nat) (q : Int) (w : World) :
    Calls Try.prog 3 #[.slice (some a) 0 c, .int .i64 q] w fun e w' => e = .returned (.bool true) ∧ w' = w := by
  go_enter Try.func3, Try.ntmps3
  go_wp2_with fail
  refine (bytes7_none (some a) c q w).mono ?_
  rintro e w' ⟨rfl, hw⟩
  subst w'
  go_wp2
  refine wp_loop_rounds 1 ?_
  rw [rounds_succ]
  by_cases hp0 : q < 0
  · go_wp2
    go_ret
    exact ⟨rfl, rfl⟩
  have hd2 : decide (q < 0) = false := by simp; omega
  by_cases hp1 : 0 < q
  · go_wp2
    go_ret
    exact ⟨rfl, rfl⟩
  obtain rfl : q = 0 := by omega
  clear hp0 hp1 hd2
  go_wp2_with fail
  refine (search9_none _ _ w).mono ?_
  rintro e w' ⟨rfl, hw'⟩
  subst w'
  go_wp2_with fail
  refine (search9_none _ _ w).mono ?_
  rintro e w' ⟨rfl, hw'⟩
  subst w'
  go_wp2_with fail
  refine (search9_none _ _ w).mono ?_
  rintro e w' ⟨rfl, hw'⟩
  subst w'
  go_wp2
  go_ret
  exact ⟨rfl, rfl⟩
end Go.Proofs.Qxb6613369a.SL
