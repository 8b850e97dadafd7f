import Derived.Test.Qxb6605229aModsRows
import Derived.WalkKit
import Derived.WalkSpells
import Derived.StillTactics
import Derived.Laws.Pointers
import Derived.Laws.StructEq
import Derived.Deep.RegionHeld3
import Derived.RowKit3
namespace Go.Proofs.Qxb6605229aMods
open Go.RowKit

/-- What 'Asked' makes of one field: the default d where the request x says -1, else x. -/
def ov (d x : Int) : Int := if x = -1 then d else x
theorem ov_m1 (d : Int) : ov d (-1) = d := by simp [ov]
theorem ov_ne (d x : Int) (h : x ≠ -1) : ov d x = x := by simp [ov, h]

/-- (admin.Shape).Asked: each field is the request's, or the default's where the request says -1; two new blocks. -/
theorem asked_any (P RF p r : Int) (r0 : -32768 ≤ r) (r1 : r ≤ 32767) (w : World) :
    Calls Trym.prog 5 #[.agg #[.int .i32 P, .int .i32 RF], .int .i32 p, .int .i16 r] w fun e w' =>
      e = .returned (.agg #[.int .i32 (ov P p), .int .i32 (ov RF r)]) ∧ ∃ c1 c2 : Array Value, w' = (w.alloc (.cells c1 24)).alloc (.cells c2 24) := by
  by_cases hp : p = -1
  · subst hp
    by_cases hr : r = -1
    · subst hr
      go_enter Trym.func5, Trym.ntmps5
      go_wp2
      simp [bodyPost, results, Trym.results5, go_sem, ov]
      exact ⟨_, _, rfl⟩
    · go_enter Trym.func5, Trym.ntmps5
      go_wp2
      simp [bodyPost, results, Trym.results5, go_sem, ov, hr]
      exact ⟨_, _, rfl⟩
  · by_cases hr : r = -1
    · subst hr
      go_enter Trym.func5, Trym.ntmps5
      go_wp2
      simp [bodyPost, results, Trym.results5, go_sem, ov, hp]
      exact ⟨_, _, rfl⟩
    · go_enter Trym.func5, Trym.ntmps5
      go_wp2
      simp [bodyPost, results, Trym.results5, go_sem, ov, hp, hr]
      exact ⟨_, _, rfl⟩
end Go.Proofs.Qxb6605229aMods
