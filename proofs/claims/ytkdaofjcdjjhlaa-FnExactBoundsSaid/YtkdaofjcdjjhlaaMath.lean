/- The plain arithmetic of remainders that the two programs compute: for a positive divisor, the truncated remainder, corrected to be at least 0, is the remainder of at least 0. No program in sight. -/
namespace Go.Proofs.Ytkdaofjcdjjhlaa

theorem tmod_bd (i n : Int) (h : 1 ≤ n) : -n < i.tmod n ∧ i.tmod n < n := by
  refine ⟨?_, Int.tmod_lt_of_pos _ (by omega)⟩
  have := Int.lt_tmod_of_pos i (show (0 : Int) < n by omega)
  exact this

theorem tmod_mod (i n : Int) : i.tmod n % n = i % n := by
  have h := Int.mul_tdiv_add_tmod i n
  conv => rhs; rw [← h]
  rw [Int.mul_add_emod_self_left]

/-- Where the truncated remainder is not below 0, it is the remainder of at least 0. -/
theorem tmod_pos (i n : Int) (h : 1 ≤ n) (h0 : 0 ≤ i.tmod n) : i.tmod n = i % n := by
  have hb := (tmod_bd i n h).2
  rw [← tmod_mod i n, Int.emod_eq_of_lt h0 hb]

/-- Where it is below 0, it and the divisor together are. -/
theorem tmod_neg (i n : Int) (h : 1 ≤ n) (h0 : i.tmod n < 0) : i.tmod n + n = i % n := by
  have hb := (tmod_bd i n h).1
  rw [← tmod_mod i n, ← Int.add_emod_right, Int.emod_eq_of_lt (by omega) (by omega)]

/-- Both ways at once: the other program's way. -/
theorem tmod_twice (i n : Int) : (i.tmod n + n) % n = i % n := by
  rw [Int.add_emod_right, tmod_mod]

theorem emod_bd (i n : Int) (h : 1 ≤ n) : 0 ≤ i % n ∧ i % n < n :=
  ⟨Int.emod_nonneg _ (by omega), Int.emod_lt_of_pos _ (by omega)⟩

end Go.Proofs.Ytkdaofjcdjjhlaa
