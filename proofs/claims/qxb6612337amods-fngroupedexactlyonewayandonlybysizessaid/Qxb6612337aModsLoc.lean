import Derived.Test.Qxb6612337aModsRows
import Derived.WalkKit
import Derived.WalkSpells
import Derived.WalkLawsBesides
import Derived.Laws.Pointers
import Derived.RowKit3
namespace Go.Proofs.Qxb6612337aMods
open Go.RowKit

/-- repo.ZZnewLocation. -/
theorem new_any (a b c d o t s : Int) (w : World) :
    Calls Trym.prog 4 #[.int .u32 a, .int .u32 b, .int .u32 c, .int .u32 d, .int .i64 o, .int .u32 t, .int .u32 s] w fun e w' =>
      e = .returned (.agg #[.int .u32 a, .int .u32 b, .int .u32 c, .int .u32 d, .int .i64 o, .int .u32 t, .int .u32 s]) ∧ ∃ c1 : Array Value, w' = w.alloc (.cells c1 24) := by
  go_enter Trym.func4, Trym.ntmps4
  go_wp2
  simp [bodyPost, results, Trym.results4, go_sem]
  exact ⟨_, rfl⟩

/-- (repo.location).grouped. -/
theorem grouped_any (a b c d o t s : Int) (w : World) :
    Calls Trym.prog 6 #[.agg #[.int .u32 a, .int .u32 b, .int .u32 c, .int .u32 d, .int .i64 o, .int .u32 t, .int .u32 s]] w fun e w' =>
      e = .returned (.bool (decide (c < s))) ∧ ∃ c1 : Array Value, w' = w.alloc (.cells c1 24) := by
  go_enter Trym.func6, Trym.ntmps6
  go_wp2
  go_ret
  exact ⟨rfl, _, rfl⟩

/-- repo.ZZgrouped. -/
theorem zz_any (a b c d o t s : Int) (w : World) :
    Calls Trym.prog 5 #[.agg #[.int .u32 a, .int .u32 b, .int .u32 c, .int .u32 d, .int .i64 o, .int .u32 t, .int .u32 s]] w fun e w' =>
      e = .returned (.bool (decide (c < s))) ∧ ∃ c1 c2 : Array Value, w' = (w.alloc (.cells c1 24)).alloc (.cells c2 24) := by
  go_enter Trym.func5, Trym.ntmps5
  go_wp2_with (go_at_call 6; refine (grouped_any _ _ _ _ _ _ _ _).mono ?_; rintro e w' ⟨rfl, o1, rfl⟩)
  go_ret
  exact ⟨rfl, _, _, rfl⟩

set_option maxHeartbeats 400000 in
theorem law_less (a b c s d o t : Int) (h : c < s) (w : World) :
    Calls Trym.prog 3 #[.int .u32 a, .int .u32 b, .int .u32 c, .int .u32 d, .int .i64 o, .int .u32 t, .int .u32 s] w fun e w' => e = .returned (.bool true) ∧ Grown w w' := by
  have h2 : ¬ s < c := by omega
  have h3 : (c == s) = false := by simp; omega
  go_enter Trym.func3, Trym.ntmps3
  go_wp2_with (first | (go_at_call 4; refine (new_any _ _ _ _ _ _ _ _).mono ?_; rintro e w' ⟨rfl, o1, rfl⟩) | (go_at_call 5; refine (zz_any _ _ _ _ _ _ _ _).mono ?_; rintro e w' ⟨rfl, o1, o2, rfl⟩))
  go_ret
  exact ⟨rfl, by (repeat apply Grown.alloc); exact Grown.refl _⟩

set_option maxHeartbeats 400000 in
theorem law_more (a b c s d o t : Int) (h : s < c) (w : World) :
    Calls Trym.prog 3 #[.int .u32 a, .int .u32 b, .int .u32 c, .int .u32 d, .int .i64 o, .int .u32 t, .int .u32 s] w fun e w' => e = .returned (.bool true) ∧ Grown w w' := by
  have h2 : ¬ c < s := by omega
  have h3 : (c == s) = false := by simp; omega
  go_enter Trym.func3, Trym.ntmps3
  go_wp2_with (first | (go_at_call 4; refine (new_any _ _ _ _ _ _ _ _).mono ?_; rintro e w' ⟨rfl, o1, rfl⟩) | (go_at_call 5; refine (zz_any _ _ _ _ _ _ _ _).mono ?_; rintro e w' ⟨rfl, o1, o2, rfl⟩))
  go_ret
  exact ⟨rfl, by (repeat apply Grown.alloc); exact Grown.refl _⟩

set_option maxHeartbeats 400000 in
theorem law_same (a b c d o t : Int) (w : World) :
    Calls Trym.prog 3 #[.int .u32 a, .int .u32 b, .int .u32 c, .int .u32 d, .int .i64 o, .int .u32 t, .int .u32 c] w fun e w' => e = .returned (.bool true) ∧ Grown w w' := by
  have h2 : ¬ c < c := by omega
  go_enter Trym.func3, Trym.ntmps3
  go_wp2_with (first | (go_at_call 4; refine (new_any _ _ _ _ _ _ _ _).mono ?_; rintro e w' ⟨rfl, o1, rfl⟩) | (go_at_call 5; refine (zz_any _ _ _ _ _ _ _ _).mono ?_; rintro e w' ⟨rfl, o1, o2, rfl⟩))
  go_ret
  exact ⟨rfl, by (repeat apply Grown.alloc); exact Grown.refl _⟩

theorem law_any (a b c d o t s : Int) (w : World) :
    Calls Trym.prog 3 #[.int .u32 a, .int .u32 b, .int .u32 c, .int .u32 d, .int .i64 o, .int .u32 t, .int .u32 s] w fun e w' => e = .returned (.bool true) ∧ Grown w w' := by
  by_cases h : c < s
  · exact law_less a b c s d o t h w
  by_cases h' : s < c
  · exact law_more a b c s d o t h' w
  obtain rfl : s = c := by omega
  exact law_same a b s d o t w
end Go.Proofs.Qxb6612337aMods
