/- The law itself (laws.FnExactBounds), called with any finder: it returns true, and nothing that was in memory ahead of the call has changed. -/
import Derived.Test.YtkdaofjcdjjhlaaCallsC
namespace Go.Proofs.Ytkdaofjcdjjhlaa
open Go.RowKit

theorem bcell {W w1 : World} (hb : Below W.heap.size W w1) : (∀ b o, b < W.heap.size → w1.cell? ⟨b, o, none⟩ = W.cell? ⟨b, o, none⟩) ∧ (∀ b o, b < W.heap.size → w1.frozen? ⟨b, o, none⟩ = W.frozen? ⟨b, o, none⟩) :=
  ⟨fun b o h => hb.cell (p := ⟨b, o, none⟩) h, fun b o h => hb.frozen (p := ⟨b, o, none⟩) h⟩

set_option maxHeartbeats 1000000 in
theorem law_any (a0 a1 a2 a3 a4 a5 a6 : Int) (w : World) :
    Calls Try.prog 3 #[.agg #[.int .i64 a0, .int .i64 a1, .int .i64 a2, .int .i64 a3, .int .i64 a4, .int .i64 a5, .int .i64 a6]] w fun e w' =>
      e = .returned (.bool true) ∧ Below w.heap.size w w' := by
  go_enter Try.func3, Try.ntmps3
  go_wp2_with (fail)
  go_at_call 5
  refine (toFinder_any _ _ _ _ _ _ _ _).mono ?_
  rintro e w1 ⟨rfl, hb1⟩
  obtain ⟨hc1, hf1⟩ := bcell hb1
  have hz1 : w.heap.size < w1.heap.size := by have := hb1.size; simp at this; omega
  go_wp2_with (fail)
  go_at_call 4
  refine (specBounds_any _ _ _ _ _ _ _ _).mono ?_
  rintro e w2 ⟨rfl, hb2⟩
  obtain ⟨hc2, hf2⟩ := bcell hb2
  have hz2 : w1.heap.size ≤ w2.heap.size := hb2.size
  have hz2' : w.heap.size < w2.heap.size := by omega
  go_wp2_with (fail)
  go_at_call 5
  refine (toFinder_any _ _ _ _ _ _ _ _).mono ?_
  rintro e w3 ⟨rfl, hb3⟩
  obtain ⟨hc3, hf3⟩ := bcell hb3
  have hz3 : w2.heap.size < w3.heap.size := by have := hb3.size; simp at this; omega
  go_wp2_with (fail)
  go_at_call 6
  refine (implBounds_any _ _ _ _ _ _ _ _).mono ?_
  rintro e w4 ⟨rfl, hb4⟩
  obtain ⟨hc4, hf4⟩ := bcell hb4
  have hz4 : w3.heap.size ≤ w4.heap.size := hb4.size
  have hz4' : w2.heap.size < w4.heap.size := by omega
  go_wp2_with (fail)
  go_at_call 7
  refine (eqFinder_any _ _ _ _ _ _ _ _).mono ?_
  rintro e w5 ⟨rfl, hb5⟩
  go_wp2_with (fail)
  go_ret
  refine ⟨rfl, ?_⟩
  have k1 : Below w.heap.size w w1 := (Joins.below_alloc1 w _).trans (hb1.mono (by simp))
  have k2 : Below w.heap.size w w2 := k1.trans (hb2.mono (by omega))
  have k3 : Below w.heap.size w w3 := (k2.alloc (by omega) _).trans (hb3.mono (by simp; omega))
  have k4 : Below w.heap.size w w4 := k3.trans (hb4.mono (by omega))
  exact (k4.alloc (by omega) _).trans (hb5.mono (by simp; omega))

end Go.Proofs.Ytkdaofjcdjjhlaa
