/-
  zzBytes: are all lengths small?
-/
import Derived.Test.Qxb6613968aSmall
namespace Go.Proofs.Qxb6613968a.Ch
open Go.ChangeShapes Go.WideShapes Go.ChangeAt Go.RowKit
set_option linter.unusedVariables false

def BytesOut (n ni nd m mi md : Nat) (L L' : Nat → Nat) (w : World) (e : Ending) (w' : World) : Prop :=
  ∃ r : Bool, e = .returned (.bool r) ∧ w' = w ∧ (r = true → n ≤ 1048576 ∧ ni ≤ 1048576 ∧ nd ≤ 1048576 ∧ m ≤ 1048576 ∧ mi ≤ 1048576 ∧ md ≤ 1048576 ∧ (∀ j, j < nd → L j ≤ 1048576) ∧ ∀ j, j < md → L' j ≤ 1048576)

set_option maxRecDepth 100000 in
set_option maxHeartbeats 4000000 in
theorem bytes24 (an ai ad bn bi bd : Option Addr) (n ni nd m mi md cn ci cd dn di dd : Nat) (S : Nat → ByteArray) (A : Nat → Option Addr) (L C : Nat → Nat) (S' : Nat → ByteArray) (A' : Nat → Option Addr) (L' C' : Nat → Nat) (u ct : Int) (tk : Bool) (a b : Int) (w : World)
    (r1 : Hid (RowAt w (fun j => .string (S j)) n an)) (r3 : Hid (RowAt w (fun j => .slice (A j) (L j) (C j)) nd ad)) (hl : Hid (∀ i, i < nd → L i ≤ 9223372036854775807))
    (q1 : Hid (RowAt w (fun j => .string (S' j)) m bn)) (q3 : Hid (RowAt w (fun j => .slice (A' j) (L' j) (C' j)) md bd)) (hl' : Hid (∀ i, i < md → L' i ≤ 9223372036854775807))
    (b1 : n ≤ 9223372036854775807) (b2 : ni ≤ 9223372036854775807) (b3 : nd ≤ 9223372036854775807) (b4 : m ≤ 9223372036854775807) (b5 : mi ≤ 9223372036854775807) (b6 : md ≤ 9223372036854775807) :
    Calls Try.prog 24 #[.slice an n cn, .slice ai ni ci, .slice ad nd cd, .slice bn m dn, .slice bi mi di, .slice bd md dd, .int .i64 u, .int .i64 ct, .bool tk, .int .i64 a, .int .i64 b] w (BytesOut n ni nd m mi md L L' w) := by
  go_enter Try.func24, Try.ntmps24
  by_cases hn1 : 1048576 < n
  · go_wp2
    go_ret
    exact ⟨false, rfl, rfl, by simp⟩
  have dn1 : decide ((1048576 : Int) < (n : Int)) = false := by simp; omega
  go_wp2
  go_loopg [23, 24] n (fun r z i wr => ∃ k y : Nat, wr = w ∧ r = n - k ∧ k ≤ n ∧ y ≤ 1048576 ∧ i = .int .i64 k ∧ z = .int .i64 y ∧ ∀ j, j < k → (S j).size ≤ 1048576)
  case atStart => exact ⟨0, n, rfl, by omega, Nat.zero_le _, by omega, rfl, rfl, fun j hj => absurd hj (Nat.not_lt_zero _)⟩
  case round =>
    obtain ⟨k1, y1, hw, hgk, hk1, hy1, rfl, rfl, hall⟩ := hrel
    subst wr
    have HA1 : Hid (∀ j, j < k1 → (S j).size ≤ 1048576) := hall
    have HG1 : Hid (gk = n - k1) := hgk
    clear hall hgk
    by_cases hlt : k1 < n
    · obtain ⟨eb, eo, rfl, hc⟩ := r1.out (by omega)
      have e1 := hc k1 hlt
      have g0 : (0 : Int) ≤ (k1 : Int) := by omega
      have g1 : (k1 : Int) < (n : Int) := by omega
      clear hc
      by_cases hb : 1048576 < (S k1).size
      · go_wp2
        go_ret
        exact ⟨false, rfl, rfl, by simp⟩
      by_cases hb2 : 1048576 < y1 + (S k1).size
      · go_wp2
        go_ret
        exact ⟨false, rfl, rfl, by simp⟩
      go_wp2
      go_roundg (n - (k1 + 1))
      case rel =>
        refine ⟨k1 + 1, y1 + (S k1).size, rfl, rfl, by omega, by omega, by go_num, by go_num, fun j hj => ?_⟩
        by_cases e : j = k1
        · subst e; omega
        · exact HA1.out j (by omega)
      case measure => have := HG1.out; omega
    · obtain rfl : k1 = n := by omega
      clear hlt
      by_cases hc0 : 1048576 < ni
      · go_wp2
        go_ret
        exact ⟨false, rfl, rfl, by simp⟩
      by_cases hc1 : 1048576 < y1 + ni
      · go_wp2
        go_ret
        exact ⟨false, rfl, rfl, by simp⟩
      by_cases hc2 : 1048576 < nd
      · go_wp2
        go_ret
        exact ⟨false, rfl, rfl, by simp⟩
      by_cases hc3 : 1048576 < y1 + ni + nd
      · go_wp2
        go_ret
        exact ⟨false, rfl, rfl, by simp⟩
      go_wp2
      go_loopg [23, 25] nd (fun r z i wr => ∃ k y : Nat, wr = w ∧ r = nd - k ∧ k ≤ nd ∧ y ≤ 1048576 ∧ i = .int .i64 k ∧ z = .int .i64 y ∧ ∀ j, j < k → L j ≤ 1048576)
      case atStart => exact ⟨0, (y1 + ni + nd), rfl, by omega, Nat.zero_le _, by omega, rfl, by go_num, fun j hj => absurd hj (Nat.not_lt_zero _)⟩
      case round =>
        obtain ⟨k2, y2, hw, hgk, hk2, hy2, rfl, rfl, hall⟩ := hrel
        subst wr
        have HA2 : Hid (∀ j, j < k2 → L j ≤ 1048576) := hall
        have HG2 : Hid (gk = nd - k2) := hgk
        clear hall hgk
        by_cases hlt : k2 < nd
        · obtain ⟨eb, eo, rfl, hc⟩ := r3.out (by omega)
          have e1 := hc k2 hlt
          have g0 : (0 : Int) ≤ (k2 : Int) := by omega
          have g1 : (k2 : Int) < (nd : Int) := by omega
          have hx := hl.out k2 hlt
          clear hc
          by_cases hb : 1048576 < L k2
          · go_wp2
            go_ret
            exact ⟨false, rfl, rfl, by simp⟩
          by_cases hb2 : 1048576 < y2 + L k2
          · go_wp2
            go_ret
            exact ⟨false, rfl, rfl, by simp⟩
          go_wp2
          go_roundg (nd - (k2 + 1))
          case rel =>
            refine ⟨k2 + 1, y2 + L k2, rfl, rfl, by omega, by omega, by go_num, by go_num, fun j hj => ?_⟩
            by_cases e : j = k2
            · subst e; omega
            · exact HA2.out j (by omega)
          case measure => have := HG2.out; omega
        · obtain rfl : k2 = nd := by omega
          clear hlt
          by_cases hc4 : 1048576 < m
          · go_wp2
            go_ret
            exact ⟨false, rfl, rfl, by simp⟩
          by_cases hc5 : 1048576 < y2 + m
          · go_wp2
            go_ret
            exact ⟨false, rfl, rfl, by simp⟩
          go_wp2
          go_loopg [23, 26] m (fun r z i wr => ∃ k y : Nat, wr = w ∧ r = m - k ∧ k ≤ m ∧ y ≤ 1048576 ∧ i = .int .i64 k ∧ z = .int .i64 y ∧ ∀ j, j < k → (S' j).size ≤ 1048576)
          case atStart => exact ⟨0, (y2 + m), rfl, by omega, Nat.zero_le _, by omega, rfl, by go_num, fun j hj => absurd hj (Nat.not_lt_zero _)⟩
          case round =>
            obtain ⟨k3, y3, hw, hgk, hk3, hy3, rfl, rfl, hall⟩ := hrel
            subst wr
            have HA3 : Hid (∀ j, j < k3 → (S' j).size ≤ 1048576) := hall
            have HG3 : Hid (gk = m - k3) := hgk
            clear hall hgk
            by_cases hlt : k3 < m
            · obtain ⟨eb, eo, rfl, hc⟩ := q1.out (by omega)
              have e1 := hc k3 hlt
              have g0 : (0 : Int) ≤ (k3 : Int) := by omega
              have g1 : (k3 : Int) < (m : Int) := by omega
              clear hc
              by_cases hb : 1048576 < (S' k3).size
              · go_wp2
                go_ret
                exact ⟨false, rfl, rfl, by simp⟩
              by_cases hb2 : 1048576 < y3 + (S' k3).size
              · go_wp2
                go_ret
                exact ⟨false, rfl, rfl, by simp⟩
              go_wp2
              go_roundg (m - (k3 + 1))
              case rel =>
                refine ⟨k3 + 1, y3 + (S' k3).size, rfl, rfl, by omega, by omega, by go_num, by go_num, fun j hj => ?_⟩
                by_cases e : j = k3
                · subst e; omega
                · exact HA3.out j (by omega)
              case measure => have := HG3.out; omega
            · obtain rfl : k3 = m := by omega
              clear hlt
              by_cases hc6 : 1048576 < mi
              · go_wp2
                go_ret
                exact ⟨false, rfl, rfl, by simp⟩
              by_cases hc7 : 1048576 < y3 + mi
              · go_wp2
                go_ret
                exact ⟨false, rfl, rfl, by simp⟩
              by_cases hc8 : 1048576 < md
              · go_wp2
                go_ret
                exact ⟨false, rfl, rfl, by simp⟩
              by_cases hc9 : 1048576 < y3 + mi + md
              · go_wp2
                go_ret
                exact ⟨false, rfl, rfl, by simp⟩
              go_wp2
              go_loopg [23, 27] md (fun r z i wr => ∃ k y : Nat, wr = w ∧ r = md - k ∧ k ≤ md ∧ y ≤ 1048576 ∧ i = .int .i64 k ∧ z = .int .i64 y ∧ ∀ j, j < k → L' j ≤ 1048576)
              case atStart => exact ⟨0, (y3 + mi + md), rfl, by omega, Nat.zero_le _, by omega, rfl, by go_num, fun j hj => absurd hj (Nat.not_lt_zero _)⟩
              case round =>
                obtain ⟨k4, y4, hw, hgk, hk4, hy4, rfl, rfl, hall⟩ := hrel
                subst wr
                have HA4 : Hid (∀ j, j < k4 → L' j ≤ 1048576) := hall
                have HG4 : Hid (gk = md - k4) := hgk
                clear hall hgk
                by_cases hlt : k4 < md
                · obtain ⟨eb, eo, rfl, hc⟩ := q3.out (by omega)
                  have e1 := hc k4 hlt
                  have g0 : (0 : Int) ≤ (k4 : Int) := by omega
                  have g1 : (k4 : Int) < (md : Int) := by omega
                  have hx := hl'.out k4 hlt
                  clear hc
                  by_cases hb : 1048576 < L' k4
                  · go_wp2
                    go_ret
                    exact ⟨false, rfl, rfl, by simp⟩
                  by_cases hb2 : 1048576 < y4 + L' k4
                  · go_wp2
                    go_ret
                    exact ⟨false, rfl, rfl, by simp⟩
                  go_wp2
                  go_roundg (md - (k4 + 1))
                  case rel =>
                    refine ⟨k4 + 1, y4 + L' k4, rfl, rfl, by omega, by omega, by go_num, by go_num, fun j hj => ?_⟩
                    by_cases e : j = k4
                    · subst e; omega
                    · exact HA4.out j (by omega)
                  case measure => have := HG4.out; omega
                · obtain rfl : k4 = md := by omega
                  clear hlt
                  go_wp2
                  go_ret
                  exact ⟨true, rfl, rfl, fun _ => ⟨by omega, by omega, by omega, by omega, by omega, by omega, HA2.out, HA4.out⟩⟩
end Go.Proofs.Qxb6613968a.Ch
