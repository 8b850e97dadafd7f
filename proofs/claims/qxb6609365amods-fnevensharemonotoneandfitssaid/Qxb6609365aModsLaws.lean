import Derived.Test.Qxb6609365aModsShare
namespace Go.Proofs.Qxb6609365aMods
open Go.RowKit

/-! ### THE PLAIN LAWS: no Go in sight -/
theorem div_parts (t m : Int) (m0 : 1 ≤ m) (h : m ≤ t) (t1 : t ≤ 9223372036854775807) :
    1 ≤ t / m ∧ t / m ≤ 9223372036854775807 / m ∧ 0 ≤ t / m * m ∧ t / m * m ≤ t ∧ t - t / m * m < m := by
  have e := Int.emod_add_mul_ediv t m
  have b0 := Int.emod_nonneg t (show m ≠ 0 by omega)
  have b1 := Int.emod_lt_of_pos t (show 0 < m by omega)
  have c := Int.mul_comm (t / m) m
  have d1 := div_ge_one t m m0 h
  refine ⟨d1, Int.ediv_le_ediv (by omega) t1, Int.mul_nonneg (by omega) (by omega), ?_, ?_⟩
  · rw [c]; omega
  · rw [c]; omega

theorem share_ge_one (t m : Int) (m0 : 1 ≤ m) : 1 ≤ share t m := by
  by_cases h : t < m
  · rw [share_lt h]; omega
  · rw [share_ge (by omega)]; exact div_ge_one t m m0 (by omega)
theorem share_le (t m : Int) (h : 1 ≤ t) : share t m ≤ t := by
  by_cases h' : t < m
  · rw [share_lt h']; omega
  · rw [share_ge (by omega)]
    exact Int.ediv_le_self m (by omega)
theorem share_fewer (t m : Int) (m0 : 1 ≤ m) : share t (m + 1) ≤ share t m := by
  by_cases h : t < m + 1
  · rw [share_lt h]; exact share_ge_one t m m0
  · rw [share_ge (by omega), share_ge (by omega)]
    rw [Int.le_ediv_iff_mul_le (by omega)]
    have e := Int.emod_add_mul_ediv t (m + 1)
    have b0 := Int.emod_nonneg t (show m + 1 ≠ 0 by omega)
    have d := Int.ediv_nonneg (show 0 ≤ t by omega) (show 0 ≤ m + 1 by omega)
    have x : (m + 1) * (t / (m + 1)) = t / (m + 1) * m + t / (m + 1) := by
      rw [Int.mul_comm, Int.mul_add, Int.mul_one]
    omega
theorem share_more (t m : Int) (m0 : 1 ≤ m) : share t m ≤ share (t + 1) m := by
  by_cases h : t < m
  · rw [share_lt h]; exact share_ge_one _ m m0
  · rw [share_ge (by omega), share_ge (by omega)]
    exact Int.ediv_le_ediv (by omega) (by omega)
theorem share_more_one (t m : Int) (m0 : 1 ≤ m) : share (t + 1) m ≤ share t m + 1 := by
  have h1 := share_ge_one t m m0
  by_cases h : t + 1 < m
  · rw [share_lt h]; omega
  · by_cases h2 : t < m
    · have : t + 1 = m := by omega
      rw [this, share_ge (by omega), Int.ediv_self (by omega)]; omega
    · rw [share_ge (by omega), share_ge (by omega)]
      have k : (t + 1) / m ≤ (t + m) / m := Int.ediv_le_ediv (by omega) (by omega)
      rw [Int.add_ediv_of_dvd_right (Int.dvd_refl m), Int.ediv_self (by omega)] at k
      exact k

/-- fitsAll where the shares fit. -/
theorem fits_yes (a m t : Int) (m0 : 1 ≤ m) (t1 : t ≤ 9223372036854775807) (a0 : 0 ≤ a) (q0 : a ≤ 9223372036854775807 / m) (p0 : 0 ≤ a * m) (p1 : a * m ≤ t) (w : World) :
    Calls Trym.prog 7 #[.int .i64 a, .int .i64 m, .int .i64 t] w fun e w' => e = .returned (.bool true) ∧ w' = w := by
  go_enter Trym.func7, Trym.ntmps7
  go_wp2
  go_ret
  exact ⟨rfl, rfl⟩

/-! ### THE FIRST LAW's WALK -/
theorem law_floor (t n : Int) (t0 : -9223372036854775808 ≤ t) (t1 : t ≤ 9223372036854775807) (n0 : -9223372036854775808 ≤ n) (n1 : n ≤ 9223372036854775807) (w : World) :
    Calls Trym.prog 3 #[.int .i64 t, .int .i64 n] w fun e w' => e = .returned (.bool true) ∧ w' = w := by
  by_cases hn : n < 1
  · by_cases h : t < 1
    · go_enter Trym.func3, Trym.ntmps3
      go_wp2_with (first | (go_at_call 5; refine (zz_none t n t0 t1 hn _).mono ?_; rw [share_lt h]; rintro e w' ⟨rfl, rfl⟩) | (go_at_call 6; refine (floor_small t 1 h _).mono ?_; rintro e w' ⟨rfl, rfl⟩))
      go_ret
      exact ⟨rfl, rfl⟩
    · go_enter Trym.func3, Trym.ntmps3
      go_wp2_with (first | (go_at_call 5; refine (zz_none t n t0 t1 hn _).mono ?_; rw [share_ge (by omega), Int.ediv_one]; rintro e w' ⟨rfl, rfl⟩) | (go_at_call 6; refine (floor_great t t 1 (by omega) (by omega) t1 (by omega) (by omega) (by omega) (by omega) (by omega) _).mono ?_; rintro e w' ⟨rfl, rfl⟩))
      go_ret
      exact ⟨rfl, rfl⟩
  · by_cases h : t < n
    · go_enter Trym.func3, Trym.ntmps3
      go_wp2_with (first | (go_at_call 5; refine (zz_many t n t0 t1 (by omega) n1 _).mono ?_; rw [share_lt h]; rintro e w' ⟨rfl, rfl⟩) | (go_at_call 6; refine (floor_small t n h _).mono ?_; rintro e w' ⟨rfl, rfl⟩))
      go_ret
      exact ⟨rfl, rfl⟩
    · obtain ⟨k1, k2, k3, k4, k5⟩ := div_parts t n (by omega) (by omega) t1
      go_enter Trym.func3, Trym.ntmps3
      go_wp2_with (first | (go_at_call 5; refine (zz_many t n t0 t1 (by omega) n1 _).mono ?_; rw [share_ge (by omega)]; rintro e w' ⟨rfl, rfl⟩) | (go_at_call 6; refine (floor_great (t / n) t n (by omega) (by omega) t1 k1 k2 k3 k4 k5 _).mono ?_; rintro e w' ⟨rfl, rfl⟩))
      go_ret
      exact ⟨rfl, rfl⟩
end Go.Proofs.Qxb6609365aMods
