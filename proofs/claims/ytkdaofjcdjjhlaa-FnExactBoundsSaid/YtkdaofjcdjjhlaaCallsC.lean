/- What the thin package's own bounds return (impl.Bounds), whatever the finder's seven numbers are: the same as the reference's. Its one statement leaves the order of seven calls open. -/
import Derived.Test.YtkdaofjcdjjhlaaCallsB
import Derived.StillTailTactics
namespace Go.Proofs.Ytkdaofjcdjjhlaa
open Go.RowKit

/-- The kit's rule for a region that ends in a forced tail, the drawn world under its own name. -/
theorem region_tail {P : Program} {id : Nat} {Q : Exit → Act → World → Prop} {a : Act} {w : World} {l : List Oper} (n : Nat) (hm : P.follows .mixedOrders = true) (hB : Region.lexTailB .any l.toArray n = true)
    (h : wpStill P l.toArray w.drew (fun a' => wpList P l.toArray Q (l.drop n) a' w.drew) (l.take n) a) : (Code.region id l.toArray true).wp P Q a w :=
  wp_region_still_tail n hm hB h

set_option maxHeartbeats 1000000 in
theorem implBounds_any (a0 a1 a2 a3 a4 a5 a6 : Int) (w : World) :
    Calls Try.prog 6 #[.agg #[.int .i64 a0, .int .i64 a1, .int .i64 a2, .int .i64 a3, .int .i64 a4, .int .i64 a5, .int .i64 a6]] w fun e w' =>
      e = .returned (.agg #[.int .i64 (a0 % 3), .int .i64 (1 + a1 % 65535), .int .i64 (4 + a2 % 8), .int .i64 (4 + a3 % 5), .int .i64 (4 + a4 % 9), .int .i64 (a5 % 16), .int .i64 (a6 % 257)]) ∧ Below w.heap.size w w' := by
  go_enter Try.func6, Try.ntmps6
  go_wp2_with (fail)
  refine region_tail 26 (by kernel_rfl) (by kernel_rfl) ?_
  simp only [List.take_succ_cons, List.take_zero, List.drop_succ_cons, List.drop_zero]
  repeat (first | still_step | (refine wpStill_step (fun K hK => ?_); go_simp; refine ⟨_, (at_any _ _ _ (by omega) (by omega)).mono (fun e w' h => ⟨h.1, h.2.symm⟩), hK _ ?_⟩; clear hK K))
  refine wpStill_nil ?_
  have e1 : IntKind.i64.wrap (1 + a1 % 65535) = 1 + a1 % 65535 := IntWalk.i64_in _ (by omega)
  have e2 : IntKind.i64.wrap (4 + a2 % 8) = 4 + a2 % 8 := IntWalk.i64_in _ (by omega)
  have e3 : IntKind.i64.wrap (4 + a3 % 5) = 4 + a3 % 5 := IntWalk.i64_in _ (by omega)
  have e4 : IntKind.i64.wrap (4 + a4 % 9) = 4 + a4 % 9 := IntWalk.i64_in _ (by omega)
  simp only [e1, e2, e3, e4]
  clear e1 e2 e3 e4
  go_wp2
  exact bodyPost_ret (v := .agg #[.int .i64 (a0 % 3), .int .i64 (1 + a1 % 65535), .int .i64 (4 + a2 % 8), .int .i64 (4 + a3 % 5), .int .i64 (4 + a4 % 9), .int .i64 (a5 % 16), .int .i64 (a6 % 257)]) (by simp [results, Try.results6, go_sem]) rfl ⟨rfl, (Joins.below_alloc2 _ _ _).drew⟩

end Go.Proofs.Ytkdaofjcdjjhlaa
