import Derived.Test.Qxb6612813aModsPrefix
namespace Go.Proofs.Qxb6612813aMods
open Go.RowKit

/-- (*store.Lock).holds: its own root. -/
theorem holds_self (b : Nat) (root : ByteArray) (w : World) (h1 : w.cell? ⟨b, 1, none⟩ = some (.string root)) :
    Calls Trym.prog 10 #[.pointer (some ⟨b, 0, none⟩), .string root] w fun e w' => e = .returned (.bool true) ∧ w' = w := by
  go_enter Trym.func10, Trym.ntmps10
  go_wp2
  go_ret
  exact ⟨rfl, rfl⟩
/-- Another name, the lock not deep. -/
theorem holds_flat (b : Nat) (root p : ByteArray) (w : World) (h1 : w.cell? ⟨b, 1, none⟩ = some (.string root)) (h2 : w.cell? ⟨b, 2, none⟩ = some (.bool false)) (hne : (root.toList == p.toList) = false) :
    Calls Trym.prog 10 #[.pointer (some ⟨b, 0, none⟩), .string p] w fun e w' => e = .returned (.bool false) ∧ w' = w := by
  go_enter Trym.func10, Trym.ntmps10
  go_wp2
  go_ret
  exact ⟨rfl, rfl⟩
/-- Another name, the lock deep: what 'within' says. -/
theorem holds_deep (b : Nat) (root p : ByteArray) (v : Bool) (w : World) (h1 : w.cell? ⟨b, 1, none⟩ = some (.string root)) (h2 : w.cell? ⟨b, 2, none⟩ = some (.bool true)) (hne : (root.toList == p.toList) = false)
    (hw : ∀ w, Calls Trym.prog 11 #[.string p, .string root] w fun e w' => e = .returned (.bool v) ∧ w' = w) :
    Calls Trym.prog 10 #[.pointer (some ⟨b, 0, none⟩), .string p] w fun e w' => e = .returned (.bool v) ∧ w' = w := by
  go_enter Trym.func10, Trym.ntmps10
  go_wp2_with (go_at_call 11; refine (hw _).mono ?_; rintro e w' ⟨rfl, hq⟩; rw [hq])
  go_ret
  exact ⟨rfl, rfl⟩
/-- store.ZZholds. -/
theorem zz_holds (b : Nat) (p : ByteArray) (v : Bool) (w : World) (hh : Calls Trym.prog 10 #[.pointer (some ⟨b, 0, none⟩), .string p] w fun e w' => e = .returned (.bool v) ∧ w' = w) :
    Calls Trym.prog 8 #[.pointer (some ⟨b, 0, none⟩), .string p] w fun e w' => e = .returned (.bool v) ∧ w' = w := by
  go_enter Trym.func8, Trym.ntmps8
  go_wp2_with (go_at_call 10; refine hh.mono ?_; rintro e w' ⟨rfl, hq⟩; rw [hq])
  go_ret
  exact ⟨rfl, rfl⟩
/-- store.ZZnewLock. -/
theorem new_any (token root : ByteArray) (deep shared : Bool) (a : Option Addr) (n c : Nat) (timeout : Int) (w : World) :
    Calls Trym.prog 7 #[.string token, .string root, .bool deep, .bool shared, .slice a n c, .int .i64 timeout] w fun e w' =>
      e = .returned (.pointer (some ⟨w.heap.size, 0, none⟩)) ∧ w'.cell? ⟨w.heap.size, 1, none⟩ = some (.string root) ∧ w'.cell? ⟨w.heap.size, 2, none⟩ = some (.bool deep) ∧ Below w.heap.size w w' := by
  go_enter Trym.func7, Trym.ntmps7
  go_wp2
  go_ret
  refine ⟨rfl, ?_, ?_, ?_⟩
  · simp [go_sem]
  · simp [go_sem]
  · exact (Below.refl _ _).alloc (Nat.le_refl _) _
end Go.Proofs.Qxb6612813aMods
