import Derived.Test.Qxb6609365aModsRows
import Derived.WalkKit
import Derived.WalkSpells
import Derived.WalkLawsBesides
import Derived.RowKit3
namespace Go.Proofs.Qxb6609365aMods
open Go.RowKit

/-- What 'evenShare' answers of t among m members, m at least 1. -/
def share (t m : Int) : Int := if t < m then 1 else t / m

theorem share_lt {t m : Int} (h : t < m) : share t m = 1 := by simp [share, h]
theorem share_ge {t m : Int} (h : m ≤ t) : share t m = t / m := by
  unfold share
  rw [if_neg (by omega)]

theorem tdiv_lt_one (t m : Int) (m0 : 1 ≤ m) (h : t < m) : t.tdiv m < 1 := by
  by_cases ht : 0 ≤ t
  · rw [Int.tdiv_eq_ediv_of_nonneg ht, Int.ediv_eq_zero_of_lt ht h]
    omega
  · obtain ⟨s, rfl⟩ : ∃ s, t = -s := ⟨-t, by omega⟩
    rw [Int.neg_tdiv]
    have := Int.tdiv_nonneg (show (0 : Int) ≤ s by omega) (show (0 : Int) ≤ m by omega)
    omega
theorem div_ge_one (t m : Int) (m0 : 1 ≤ m) (h : m ≤ t) : 1 ≤ t / m := by
  rw [Int.le_ediv_iff_mul_le (by omega)]
  omega

/-- coordinator.evenShare, at least one member. -/
theorem even_many (t m : Int) (t0 : -9223372036854775808 ≤ t) (t1 : t ≤ 9223372036854775807) (m0 : 1 ≤ m) (m1 : m ≤ 9223372036854775807) (w : World) :
    Calls Trym.prog 8 #[.int .i64 t, .int .i64 m] w fun e w' => e = .returned (.int .i64 (share t m)) ∧ w' = w := by
  have hm : ¬ m < 1 := by omega
  by_cases h : t < m
  · have h1 := tdiv_lt_one t m m0 h
    rw [share_lt h]
    go_enter Trym.func8, Trym.ntmps8
    go_wp2
    go_ret
    exact ⟨rfl, rfl⟩
  · have h1 := div_ge_one t m m0 (by omega)
    rw [share_ge (by omega)]
    go_enter Trym.func8, Trym.ntmps8
    go_wp2
    go_ret
    exact ⟨rfl, rfl⟩

/-- coordinator.evenShare, fewer than one member: as among one. -/
theorem even_none (t m : Int) (t0 : -9223372036854775808 ≤ t) (t1 : t ≤ 9223372036854775807) (m0 : m < 1) (w : World) :
    Calls Trym.prog 8 #[.int .i64 t, .int .i64 m] w fun e w' => e = .returned (.int .i64 (share t 1)) ∧ w' = w := by
  by_cases h : t < 1
  · rw [share_lt h]
    go_enter Trym.func8, Trym.ntmps8
    go_wp2
    go_ret
    exact ⟨rfl, rfl⟩
  · rw [share_ge (by omega), Int.ediv_one]
    go_enter Trym.func8, Trym.ntmps8
    go_wp2
    go_ret
    exact ⟨rfl, rfl⟩

/-- coordinator.ZZevenShare. -/
theorem zz_many (t m : Int) (t0 : -9223372036854775808 ≤ t) (t1 : t ≤ 9223372036854775807) (m0 : 1 ≤ m) (m1 : m ≤ 9223372036854775807) (w : World) :
    Calls Trym.prog 5 #[.int .i64 t, .int .i64 m] w fun e w' => e = .returned (.int .i64 (share t m)) ∧ w' = w := by
  go_enter Trym.func5, Trym.ntmps5
  go_wp2_with (go_at_call 8; refine (even_many t m t0 t1 m0 m1 _).mono ?_; rintro e w' ⟨rfl, rfl⟩)
  go_ret
  exact ⟨rfl, rfl⟩
theorem zz_none (t m : Int) (t0 : -9223372036854775808 ≤ t) (t1 : t ≤ 9223372036854775807) (m0 : m < 1) (w : World) :
    Calls Trym.prog 5 #[.int .i64 t, .int .i64 m] w fun e w' => e = .returned (.int .i64 (share t 1)) ∧ w' = w := by
  go_enter Trym.func5, Trym.ntmps5
  go_wp2_with (go_at_call 8; refine (even_none t m t0 t1 m0 _).mono ?_; rintro e w' ⟨rfl, rfl⟩)
  go_ret
  exact ⟨rfl, rfl⟩

/-- isFloorShare where the total is below m. -/
theorem floor_small (t m : Int) (h : t < m) (w : World) :
    Calls Trym.prog 6 #[.int .i64 1, .int .i64 t, .int .i64 m] w fun e w' => e = .returned (.bool true) ∧ w' = w := by
  go_enter Trym.func6, Trym.ntmps6
  go_wp2
  go_ret
  exact ⟨rfl, rfl⟩

/-- isFloorShare at the floor. -/
theorem floor_great (r t m : Int) (h : m ≤ t) (m0 : 1 ≤ m) (t1 : t ≤ 9223372036854775807) (r0 : 1 ≤ r) (q0 : r ≤ 9223372036854775807 / m) (p0 : 0 ≤ r * m) (p1 : r * m ≤ t) (p2 : t - r * m < m) (w : World) :
    Calls Trym.prog 6 #[.int .i64 r, .int .i64 t, .int .i64 m] w fun e w' => e = .returned (.bool true) ∧ w' = w := by
  go_enter Trym.func6, Trym.ntmps6
  go_wp2
  go_ret
  exact ⟨rfl, rfl⟩
end Go.Proofs.Qxb6609365aMods
