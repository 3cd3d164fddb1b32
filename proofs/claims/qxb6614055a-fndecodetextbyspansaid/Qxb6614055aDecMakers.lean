/-
  The makers of a Value: each by a contract.
-/
import Derived.Test.Qxb6614055aDecInts
namespace Go.Proofs.Qxb6614055a.Dec
open Go.ChangeShapes Go.WideShapes Go.ChangeAt Go.RowKit
open Plain

/-- A string of one byte. -/
def mk1 (x : Nat) : ByteArray := ⟨#[UInt8.ofNat x]⟩

theorem time_mark : ∀ f : Nat, f < 8 → ({ data := #[2, 3, 4, 5, 6, 7, 8, 9] } : ByteArray).extract f (f + 1) = mk1 (2 + f) := by decide
theorem dec_mark : ∀ f : Nat, f < 31 → ({ data := #[10, 11, 12, 13, 14, 15, 16, 17, 18, 19, 20, 21, 22, 23, 24, 25, 26, 27, 28, 29, 30, 31, 32, 33, 34, 35, 36, 37, 38, 39, 40] } : ByteArray).extract f (f + 1) = mk1 (10 + f) := by decide

theorem intValue (v : Int) (w : World) :
    Calls Try.prog 31 #[.int .i64 v] w fun e w' => e = .returned (.agg #[.string { data := #[0] }, .int .i64 v]) ∧ w' = w.alloc (.cells #[.string { data := #[0] }, .int .i64 v] 66) := by
  go_enter Try.func31, Try.ntmps31
  go_wp2
  exact bodyPost_ret (v := .agg #[.string { data := #[0] }, .int .i64 v]) (by simp [results, Try.results31, go_sem]) rfl ⟨rfl, rfl⟩

theorem aboveValue (v : Int) (w : World) :
    Calls Try.prog 33 #[.int .i64 v, .bool true] w fun e w' => e = .returned (.agg #[.string { data := #[1] }, .int .i64 v]) ∧ w' = w.alloc (.cells #[.string { data := #[1] }, .int .i64 v] 66) := by
  go_enter Try.func33, Try.ntmps33
  go_wp2
  exact bodyPost_ret (v := .agg #[.string { data := #[1] }, .int .i64 v]) (by simp [results, Try.results33, go_sem]) rfl ⟨rfl, rfl⟩

theorem timeValue (v : Int) (f : Nat) (F : Int) (hF : F = (f : Int)) (hf : f < 8) (w : World) :
    Calls Try.prog 34 #[.int .i64 v, .int .i64 F] w fun e w' => e = .returned (.agg #[.string (mk1 (2 + f)), .int .i64 v]) ∧ w' = w.alloc (.cells #[.string (mk1 (2 + f)), .int .i64 v] 66) := by
  subst hF
  rw [← time_mark f hf]
  go_enter Try.func34, Try.ntmps34
  go_wp2
  exact bodyPost_ret (v := .agg #[.string _, .int .i64 v]) (by simp [results, Try.results34, go_sem]) rfl ⟨rfl, rfl⟩

theorem decValue (v : Int) (f : Nat) (F : Int) (hF : F = (f : Int)) (hf : f < 31) (w : World) :
    Calls Try.prog 35 #[.int .i64 v, .int .i64 F] w fun e w' => e = .returned (.agg #[.string (mk1 (10 + f)), .int .i64 v]) ∧ w' = w.alloc (.cells #[.string (mk1 (10 + f)), .int .i64 v] 66) := by
  subst hF
  rw [← dec_mark f hf]
  go_enter Try.func35, Try.ntmps35
  go_wp2
  exact bodyPost_ret (v := .agg #[.string _, .int .i64 v]) (by simp [results, Try.results35, go_sem]) rfl ⟨rfl, rfl⟩

end Go.Proofs.Qxb6614055a.Dec
