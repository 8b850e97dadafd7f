import Derived.Test.Qxb6612813aModsRows
import Derived.WalkKit
import Derived.WalkSpells
import Derived.WalkLawsBesides
import Derived.Laws.Pointers
import Derived.Laws.Strings3
import Derived.Lib.Strings
import Derived.Lib.Slices
import Derived.RowKit3
namespace Go.Proofs.Qxb6612813aMods
open Go.RowKit

/-- internal/stringslite.HasPrefix. -/
theorem lite_any (s p : ByteArray) (w : World) :
    Calls Trym.prog 13 #[.string s, .string p] w fun e w' => e = .returned (.bool (Lib.hasPrefix s.data.toList p.data.toList)) ∧ w' = w := by
  rw [← Lib.hasPrefix_of_take, ← Lib.size_eq, ← Lib.size_eq]
  go_enter Trym.func13, Trym.ntmps13
  go_wp2
  · rename_i h
    go_ret
    refine ⟨?_, rfl⟩
    show Ending.returned (Value.bool ((s.extract 0 p.size).toList == p.toList)) = _
    rw [Lib.extract_toList, Lib.toList_data]
    simp [h]
  · rename_i h
    go_ret
    refine ⟨?_, rfl⟩
    show Ending.returned (Value.bool false) = _
    simp [h]

/-- strings.HasPrefix. -/
theorem prefix_any (s p : ByteArray) (w : World) :
    Calls Trym.prog 12 #[.string s, .string p] w fun e w' => e = .returned (.bool (Lib.hasPrefix s.data.toList p.data.toList)) ∧ w' = w := by
  go_enter Trym.func12, Trym.ntmps12
  go_wp2_with (go_at_call 13; refine (lite_any _ _ _).mono ?_; rintro e w' ⟨rfl, hw⟩; rw [hw])
  go_ret
  exact ⟨rfl, rfl⟩

/-- store.within, root is not ".": p has root and a slash ahead of it. -/
theorem within_plain (p root : ByteArray) (hs : root.size ≤ 1048576) (hne : (p.toList == root.toList) = false) (hdot : (root.toList == [46]) = false) (w : World) :
    Calls Trym.prog 11 #[.string p, .string root] w fun e w' => e = .returned (.bool (Lib.hasPrefix p.data.toList (root ++ ⟨#[47]⟩).data.toList)) ∧ w' = w := by
  go_enter Trym.func11, Trym.ntmps11
  go_wp2_with (go_at_call 12; refine (prefix_any _ _ _).mono ?_; rintro e w' ⟨rfl, hw⟩; rw [hw])
  go_ret
  exact ⟨rfl, rfl⟩
theorem within_dot (p root : ByteArray) (hne : (p.toList == root.toList) = false) (hdot : (root.toList == [46]) = true) (w : World) :
    Calls Trym.prog 11 #[.string p, .string root] w fun e w' => e = .returned (.bool true) ∧ w' = w := by
  go_enter Trym.func11, Trym.ntmps11
  go_wp2_with (go_at_call 12; refine (prefix_any _ _ _).mono ?_; rintro e w' ⟨rfl, hw⟩; rw [hw])
  go_ret
  exact ⟨rfl, rfl⟩
end Go.Proofs.Qxb6612813aMods
