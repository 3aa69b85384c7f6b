/-
  THE CONTRACTS OF jsDigit, jsStep.
-/
import Derived.Test.Qxb6602602aJsonA
namespace Go.Proofs.Qxb6602602a.Json
open Go.RowKit

theorem jsDigit_any (x : Int) (w : World) : Calls Try.prog 21 #[.int .u8 x] w fun e w' => e = .returned (.bool (dg x)) ∧ w' = w := by
  by_cases h1 : 48 ≤ x
  · by_cases h2 : x ≤ 57
    · go_enter Try.func21, Try.ntmps21
      go_wp2
      go_ret
      exact ⟨by simp [dg, h1, h2], rfl⟩
    · go_enter Try.func21, Try.ntmps21
      go_wp2
      go_ret
      exact ⟨by simp [dg, h1, h2], rfl⟩
  · go_enter Try.func21, Try.ntmps21
    go_wp2
    go_ret
    exact ⟨by rw [dg_false (by omega)]; rfl, rfl⟩

set_option maxHeartbeats 2000000 in
theorem jsStep_any (st : Nat) (hst : st ≤ 8) (x : Int) (w : World) : Calls Try.prog 9 #[.int .i64 st, .int .u8 x] w fun e w' => e = .returned (.int .i64 (step st x : Nat)) ∧ w' = w := by
  have hcase : st = 0 ∨ st = 1 ∨ st = 2 ∨ st = 3 ∨ st = 4 ∨ st = 5 ∨ st = 6 ∨ st = 7 ∨ st = 8 := by omega
  rcases hcase with rfl | rfl | rfl | rfl | rfl | rfl | rfl | rfl | rfl
  all_goals
    go_enter Try.func9, Try.ntmps9
    go_wp2_with (go_at_call 21; refine (jsDigit_any _ _).mono ?_; rintro e w' ⟨rfl, rfl⟩)
    all_goals
      go_ret
      exact ⟨by simp_all [step], rfl⟩
end Go.Proofs.Qxb6602602a.Json
