/- What the functions over a whole finder return, whatever its seven numbers are: the copy (laws.toFinder), the reference's bounds (spec.Bounds) and the comparison of a finder with its like (laws.eqFinder). -/
import Derived.Test.YtkdaofjcdjjhlaaCallsA
import Derived.Lib.SmallJoins
namespace Go.Proofs.Ytkdaofjcdjjhlaa
open Go.RowKit

set_option maxHeartbeats 1000000 in
theorem toFinder_any (a0 a1 a2 a3 a4 a5 a6 : Int) (w : World) :
    Calls Try.prog 5 #[.agg #[.int .i64 a0, .int .i64 a1, .int .i64 a2, .int .i64 a3, .int .i64 a4, .int .i64 a5, .int .i64 a6]] w fun e w' =>
      e = .returned (.agg #[.int .i64 a0, .int .i64 a1, .int .i64 a2, .int .i64 a3, .int .i64 a4, .int .i64 a5, .int .i64 a6]) ∧ Below w.heap.size w w' := by
  go_enter Try.func5, Try.ntmps5
  go_wp2
  exact bodyPost_ret (v := .agg #[.int .i64 a0, .int .i64 a1, .int .i64 a2, .int .i64 a3, .int .i64 a4, .int .i64 a5, .int .i64 a6]) (by simp [results, Try.results5, go_sem]) rfl ⟨rfl, Joins.below_alloc3 _ _ _ _⟩

set_option maxHeartbeats 1000000 in
theorem eqFinder_any (a0 a1 a2 a3 a4 a5 a6 : Int) (w : World) :
    Calls Try.prog 7 #[.agg #[.int .i64 a0, .int .i64 a1, .int .i64 a2, .int .i64 a3, .int .i64 a4, .int .i64 a5, .int .i64 a6], .agg #[.int .i64 a0, .int .i64 a1, .int .i64 a2, .int .i64 a3, .int .i64 a4, .int .i64 a5, .int .i64 a6]] w fun e w' =>
      e = .returned (.bool true) ∧ Below w.heap.size w w' := by
  go_enter Try.func7, Try.ntmps7
  go_wp2
  go_ret
  exact ⟨rfl, Joins.below_alloc2 _ _ _⟩

set_option maxHeartbeats 1000000 in
theorem specBounds_any (a0 a1 a2 a3 a4 a5 a6 : Int) (w : World) :
    Calls Try.prog 4 #[.agg #[.int .i64 a0, .int .i64 a1, .int .i64 a2, .int .i64 a3, .int .i64 a4, .int .i64 a5, .int .i64 a6]] w fun e w' =>
      e = .returned (.agg #[.int .i64 (a0 % 3), .int .i64 (1 + a1 % 65535), .int .i64 (4 + a2 % 8), .int .i64 (4 + a3 % 5), .int .i64 (4 + a4 % 9), .int .i64 (a5 % 16), .int .i64 (a6 % 257)]) ∧ Below w.heap.size w w' := by
  go_enter Try.func4, Try.ntmps4
  go_wp2_with (go_at_call 8; refine (wrAt_any _ _ _ (by omega) (by omega)).mono ?_; rintro e w' ⟨rfl, rfl⟩)
  exact bodyPost_ret (v := .agg #[.int .i64 (a0 % 3), .int .i64 (1 + a1 % 65535), .int .i64 (4 + a2 % 8), .int .i64 (4 + a3 % 5), .int .i64 (4 + a4 % 9), .int .i64 (a5 % 16), .int .i64 (a6 % 257)]) (by simp [results, Try.results4, go_sem]) rfl ⟨rfl, Joins.below_alloc3 _ _ _ _⟩

end Go.Proofs.Ytkdaofjcdjjhlaa
