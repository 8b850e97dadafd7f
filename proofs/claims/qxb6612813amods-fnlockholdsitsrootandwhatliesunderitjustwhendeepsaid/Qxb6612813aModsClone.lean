import Derived.Test.Qxb6612813aModsRows
import Derived.WalkKit
import Derived.WalkSpells
import Derived.WalkLawsBesides
import Derived.Laws.Pointers
import Derived.Deep.OwnRows
import Derived.Below
namespace Go.Proofs.Qxb6612813aMods
open Go.RowKit

theorem info5 : (Trym.prog.info? 5).map (fun i => (i.zero, i.size, i.bytes)) = some (some (.int .u8 0), 1, 1) := by kernel_rfl

/-- The copy's cells behind k rounds. -/
def cl (zs : List Int) (k j : Nat) : Value := if j < k then .int .u8 (zs.getD j 0) else .int .u8 0

theorem cl_step (zs : List Int) (k j : Nat) : (if j = k then .int .u8 (zs[k]?.getD 0) else cl zs k j) = cl zs (k + 1) j := by
  unfold cl
  by_cases h : j = k
  · subst h
    simp
  · by_cases h' : j < k
    · rw [if_neg h, if_pos h', if_pos (by omega)]
    · rw [if_neg h, if_neg h', if_neg (by omega)]

/-- zzCloneBytesB1: nil. -/
theorem clone_nil (w : World) :
    Calls Trym.prog 6 #[.slice none 0 0] w fun e w' => (∃ a m k, e = .returned (.slice a m k)) ∧ Below w.heap.size w w' := by
  have q : ∀ w, (binOp .eql 22 (.slice none 0 0) (.slice none 0 0)).run Trym.prog w = .ok (.bool true) w := fun w => Lib.run_eql_slice_nil w 22 5 none 0 0 0 0 Trym.underlying22
  go_enter Trym.func6, Trym.ntmps6
  go_wp2
  go_ret
  exact ⟨⟨_, _, _, rfl⟩, Below.refl _ _⟩

/-- zzCloneBytesB1: a slice with no element, not nil. -/
theorem clone_empty (x : Addr) (c : Nat) (w : World) :
    Calls Trym.prog 6 #[.slice (some x) 0 c] w fun e w' => (∃ a m k, e = .returned (.slice a m k)) ∧ Below w.heap.size w w' := by
  have q : ∀ w, (binOp .eql 22 (.slice (some x) 0 c) (.slice none 0 0)).run Trym.prog w = .ok (.bool false) w := fun w => Lib.run_eql_slice_nil w 22 5 (some x) 0 c 0 0 Trym.underlying22
  have hmk : ∀ w, (Instr.makeSlice 22 (.int .i64 0) (.int .i64 0)).run Trym.prog w = .ok (.slice (some ⟨w.heap.size, 0, none⟩) 0 0) (w.alloc (.cells (madeCells #[.int .u8 0] 0) 5)) := run_make_row' (P := Trym.prog) 22 5 (.int .u8 0) 1 Trym.underlying22 info5 rfl .i64 .i64 0 (by omega) (by omega)
  go_enter Trym.func6, Trym.ntmps6
  go_wp2
  go_loop [4] (fun i => i = .int .i64 0) (fun _ => 0)
  case atStart => exact rfl
  case round =>
    obtain rfl := hrel
    go_wp2
    go_ret
    exact ⟨⟨_, _, _, rfl⟩, (Below.refl _ _).alloc (Nat.le_refl _) _⟩

set_option maxHeartbeats 1000000 in
/-- zzCloneBytesB1: one element or more. -/
theorem clone_row (b off n c : Nat) (zs : List Int) (w : World) (n0 : 0 < n) (hn : n ≤ 1048576) (hb : b < w.heap.size) (hcell : ∀ i, i < n → w.cell? ⟨b, off + i, none⟩ = some (.int .u8 (zs.getD i 0))) :
    Calls Trym.prog 6 #[.slice (some ⟨b, off, none⟩) n c] w fun e w' => (∃ a m k, e = .returned (.slice a m k)) ∧ Below w.heap.size w w' := by
  have q : ∀ w, (binOp .eql 22 (.slice (some ⟨b, off, none⟩) n c) (.slice none 0 0)).run Trym.prog w = .ok (.bool false) w := fun w => Lib.run_eql_slice_nil w 22 5 (some ⟨b, off, none⟩) n c 0 0 Trym.underlying22
  have hmk := run_make_row' (P := Trym.prog) 22 5 (.int .u8 0) 1 Trym.underlying22 info5 rfl .i64 .i64 n (by omega) (by omega)
  have hrow0 : (w.alloc (.cells (madeCells #[.int .u8 0] n) 5)).rowIs w.heap.size 5 n (cl zs 0) := (World.rowIs_made w (.int .u8 0) n 5).congr (fun i hi => by simp [cl])
  have HR : Hid ((w.alloc (.cells (madeCells #[.int .u8 0] n) 5)).rowIs w.heap.size 5 n (cl zs 0)) := hrow0
  have HC : Hid (∀ i, i < n → w.cell? ⟨b, off + i, none⟩ = some (.int .u8 (zs.getD i 0))) := hcell
  clear hrow0 hcell
  go_enter Trym.func6, Trym.ntmps6
  go_wp2
  go_loopw [4] (fun i wr => ∃ k : Nat, k ≤ n ∧ i = .int .i64 k ∧ Below w.heap.size w wr ∧ wr.rowIs w.heap.size 5 n (cl zs k)) (fun i _ => n - (intOf i).toNat)
  case atStart => exact ⟨0, Nat.zero_le _, rfl, (Below.refl _ _).alloc (Nat.le_refl _) _, HR.out⟩
  case round =>
    obtain ⟨k, hk, rfl, hbel, hrow⟩ := hrel
    have HB : Hid (Below w.heap.size w wr) := hbel
    have HW : Hid (wr.rowIs w.heap.size 5 n (cl zs k)) := hrow
    clear hbel hrow hmk q HR
    by_cases hlt : k < n
    · have g1 : wr.cell? ⟨b, off + k, none⟩ = some (.int .u8 (zs.getD k 0)) := (HB.out.cell (p := ⟨b, off + k, none⟩) hb).trans (HC.out k hlt)
      have g2 : wr.cell? ⟨w.heap.size, k, none⟩ = some (.int .u8 0) := by have := HW.out.cell hlt; simpa [cl] using this
      have g3 : wr.frozen? ⟨w.heap.size, k, none⟩ = false := HW.out.frozen k
      go_wp2
      go_roundw
      case rel => exact ⟨k + 1, by omega, by go_num, HB.out.setCell (Nat.le_refl _) _, (HW.out.set k _).congr (fun j hj => cl_step zs k j)⟩
      case measure => simp [intOf]; omega
    · go_wp2
      go_ret
      exact ⟨⟨_, _, _, rfl⟩, HB.out⟩
end Go.Proofs.Qxb6612813aMods
