import Derived.Test.Qxb6609365aModsLaws
namespace Go.Proofs.Qxb6609365aMods
open Go.RowKit

/-! ### THE SECOND LAW's WALK -/
theorem mono_neg (t n : Int) (h : t < 0) (w : World) :
    Calls Trym.prog 4 #[.int .i64 t, .int .i64 n] w fun e w' => e = .returned (.bool true) ∧ w' = w := by
  go_enter Trym.func4, Trym.ntmps4
  go_wp2
  go_ret
  exact ⟨rfl, rfl⟩
theorem mono_top (t n : Int) (h : 9223372036854775807 ≤ t) (w : World) :
    Calls Trym.prog 4 #[.int .i64 t, .int .i64 n] w fun e w' => e = .returned (.bool true) ∧ w' = w := by
  go_enter Trym.func4, Trym.ntmps4
  go_wp2
  go_ret
  exact ⟨rfl, rfl⟩
theorem mono_none (t n : Int) (h0 : 0 ≤ t) (h1 : t < 9223372036854775807) (h : n < 1) (w : World) :
    Calls Trym.prog 4 #[.int .i64 t, .int .i64 n] w fun e w' => e = .returned (.bool true) ∧ w' = w := by
  go_enter Trym.func4, Trym.ntmps4
  go_wp2
  go_ret
  exact ⟨rfl, rfl⟩
theorem mono_many (t n : Int) (h0 : 0 ≤ t) (h1 : t < 9223372036854775807) (h : 9223372036854775807 ≤ n) (w : World) :
    Calls Trym.prog 4 #[.int .i64 t, .int .i64 n] w fun e w' => e = .returned (.bool true) ∧ w' = w := by
  go_enter Trym.func4, Trym.ntmps4
  go_wp2
  go_ret
  exact ⟨rfl, rfl⟩

/-- The total is 0: every share is 1. -/
theorem mono_zero (n : Int) (n0 : 1 ≤ n) (n1 : n < 9223372036854775807) (w : World) :
    Calls Trym.prog 4 #[.int .i64 0, .int .i64 n] w fun e w' => e = .returned (.bool true) ∧ w' = w := by
  have e1 : share 0 n = 1 := share_lt (by omega)
  have e2 : share 0 (n + 1) = 1 := share_lt (by omega)
  have e3 : share 0 1 = 1 := share_lt (by omega)
  have k1 := share_ge_one 1 n n0
  have k2 := share_le 1 n (by omega)
  go_enter Trym.func4, Trym.ntmps4
  go_wp2_with (go_at_call 5; refine (zz_many _ _ (by omega) (by omega) (by omega) (by omega) _).mono ?_; rintro e w' ⟨rfl, rfl⟩)
  go_ret
  exact ⟨rfl, rfl⟩

/-- The total is below the members. -/
theorem mono_small (t n : Int) (h0 : 1 ≤ t) (h1 : t < 9223372036854775807) (n0 : 1 ≤ n) (n1 : n < 9223372036854775807) (h : t < n) (w : World) :
    Calls Trym.prog 4 #[.int .i64 t, .int .i64 n] w fun e w' => e = .returned (.bool true) ∧ w' = w := by
  have k1 := share_ge_one t n n0
  have k2 := share_fewer t n n0
  have k3 := share_more t n n0
  have k4 := share_more_one t n n0
  have k5 := share_le t n h0
  have e3 : share t 1 = t := by rw [share_ge (by omega), Int.ediv_one]
  go_enter Trym.func4, Trym.ntmps4
  go_wp2_with (go_at_call 5; refine (zz_many _ _ (by omega) (by omega) (by omega) (by omega) _).mono ?_; rintro e w' ⟨rfl, rfl⟩)
  go_ret
  exact ⟨rfl, rfl⟩

/-- The total is at least the members. -/
theorem mono_great (t n : Int) (h0 : 1 ≤ t) (h1 : t < 9223372036854775807) (n0 : 1 ≤ n) (n1 : n < 9223372036854775807) (h : n ≤ t) (w : World) :
    Calls Trym.prog 4 #[.int .i64 t, .int .i64 n] w fun e w' => e = .returned (.bool true) ∧ w' = w := by
  have k1 := share_ge_one t n n0
  have k2 := share_fewer t n n0
  have k3 := share_more t n n0
  have k4 := share_more_one t n n0
  have k5 := share_le t n h0
  have e3 : share t 1 = t := by rw [share_ge (by omega), Int.ediv_one]
  have d := div_parts t n n0 h (by omega)
  rw [← share_ge h] at d
  obtain ⟨_, d2, d3, d4, _⟩ := d
  go_enter Trym.func4, Trym.ntmps4
  go_wp2_with (first | (go_at_call 5; refine (zz_many _ _ (by omega) (by omega) (by omega) (by omega) _).mono ?_; rintro e w' ⟨rfl, rfl⟩) | (go_at_call 7; refine (fits_yes (share t n) n t n0 (by omega) (by omega) d2 d3 d4 _).mono ?_; rintro e w' ⟨rfl, rfl⟩))
  go_ret
  exact ⟨rfl, rfl⟩

theorem law_mono (t n : Int) (w : World) :
    Calls Trym.prog 4 #[.int .i64 t, .int .i64 n] w fun e w' => e = .returned (.bool true) ∧ w' = w := by
  by_cases a : t < 0
  · exact mono_neg t n a w
  by_cases b : 9223372036854775807 ≤ t
  · exact mono_top t n b w
  by_cases c : n < 1
  · exact mono_none t n (by omega) (by omega) c w
  by_cases d : 9223372036854775807 ≤ n
  · exact mono_many t n (by omega) (by omega) d w
  by_cases z : t = 0
  · subst z
    exact mono_zero n (by omega) (by omega) w
  by_cases h : t < n
  · exact mono_small t n (by omega) (by omega) (by omega) (by omega) h w
  · exact mono_great t n (by omega) (by omega) (by omega) (by omega) (by omega) w
end Go.Proofs.Qxb6609365aMods
