/-
  THE CONTRACTS OF THE SMALL FUNCTIONS ON kappaset.Value: ZZInt, ZZBottom, mkValue, Compare: each makes new blocks only.
-/
import Derived.Test.Qxb6600476aRows
import Derived.WalkKit
import Derived.RowKit3
namespace Go.Proofs.Qxb6600476a.Values
open Go.RowKit

theorem zzint (x : Int) (w : World) :
    Calls Try.prog 30 #[.int .i64 x] w fun e w' => e = .returned (.agg #[.int .i64 x, .bool true]) ∧ ∃ c : Array Value, w' = w.alloc (.cells c 23) := by
  go_enter Try.func30, Try.ntmps30
  go_wp2
  simp [bodyPost, results, Try.results30, go_sem]
  exact ⟨_, rfl⟩

theorem zzbottom (w : World) :
    Calls Try.prog 31 #[] w fun e w' => e = .returned (.agg #[.int .i64 0, .bool false]) ∧ ∃ c : Array Value, w' = w.alloc (.cells c 23) := by
  go_enter Try.func31, Try.ntmps31
  go_wp2
  simp [bodyPost, results, Try.results31, go_sem]
  exact ⟨_, rfl⟩

theorem mk_set (x : Int) (w : World) :
    Calls Try.prog 12 #[.int .i64 x, .bool true] w fun e w' => e = .returned (.agg #[.int .i64 x, .bool true]) ∧ ∃ c c2 : Array Value, w' = (w.alloc (.cells c 23)).alloc (.cells c2 23) := by
  go_enter Try.func12, Try.ntmps12
  go_wp2_with (go_at_call 30; refine (zzint _ _).mono ?_; rintro e w' ⟨rfl, c, rfl⟩)
  simp [bodyPost, results, Try.results12, go_sem]
  exact ⟨_, _, rfl⟩

theorem mk_unset (x : Int) (w : World) :
    Calls Try.prog 12 #[.int .i64 x, .bool false] w fun e w' => e = .returned (.agg #[.int .i64 0, .bool false]) ∧ ∃ c c2 : Array Value, w' = (w.alloc (.cells c 23)).alloc (.cells c2 23) := by
  go_enter Try.func12, Try.ntmps12
  go_wp2_with (go_at_call 31; refine (zzbottom _).mono ?_; rintro e w' ⟨rfl, c, rfl⟩)
  simp [bodyPost, results, Try.results12, go_sem]
  exact ⟨_, _, rfl⟩

end Go.Proofs.Qxb6600476a.Values
