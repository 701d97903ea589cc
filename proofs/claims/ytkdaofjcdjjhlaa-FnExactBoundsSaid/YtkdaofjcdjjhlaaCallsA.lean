/- What the small functions return: the two remainders (spec.wrAt, impl.at), the copy of a finder (laws.toFinder) and the comparison of two finders that are alike (laws.eqFinder). -/
import Derived.Test.YtkdaofjcdjjhlaaMath
import Derived.Test.YtkdaofjcdjjhlaaRows
import Derived.WalkKit
import Derived.WalkSpells
import Derived.Lib.Hide
namespace Go.Proofs.Ytkdaofjcdjjhlaa
open Go.RowKit

theorem ret_int {k : IntKind} {a b : Int} (h : a = b) : Ending.returned (.int k a) = .returned (.int k b) := by rw [h]

set_option maxHeartbeats 400000 in
theorem wrAt_any (i n : Int) (w : World) (h1 : 1 ≤ n) (h2 : n ≤ 65535) :
    Calls Try.prog 8 #[.int .i64 i, .int .i64 n] w fun e w' => e = .returned (.int .i64 (i % n)) ∧ w = w' := by
  obtain ⟨b1, b2⟩ := tmod_bd i n h1
  have hn0 : (n == 0) = false := beq_eq_false_iff_ne.2 (by omega)
  by_cases hc : i.tmod n < 0
  · have E := tmod_neg i n h1 hc
    generalize hr : i % n = r at E ⊢
    have H := Lib.hid E
    clear E hr
    go_enter Try.func8, Try.ntmps8
    go_wp2
    go_ret
    exact ⟨ret_int H.out, rfl⟩
  · have E := tmod_pos i n h1 (by omega)
    generalize hr : i % n = r at E ⊢
    have H := Lib.hid E
    clear E hr
    go_enter Try.func8, Try.ntmps8
    go_wp2
    go_ret
    exact ⟨ret_int H.out, rfl⟩

set_option maxHeartbeats 400000 in
theorem at_any (i n : Int) (w : World) (h1 : 1 ≤ n) (h2 : n ≤ 65535) :
    Calls Try.prog 9 #[.int .i64 i, .int .i64 n] w fun e w' => e = .returned (.int .i64 (i % n)) ∧ w = w' := by
  obtain ⟨b1, b2⟩ := tmod_bd i n h1
  have hn0 : (n == 0) = false := beq_eq_false_iff_ne.2 (by omega)
  have E := tmod_twice i n
  generalize hr : i % n = r at E ⊢
  have H := Lib.hid E
  clear E hr
  go_enter Try.func9, Try.ntmps9
  go_wp2
  go_ret
  exact ⟨ret_int H.out, rfl⟩

end Go.Proofs.Ytkdaofjcdjjhlaa
