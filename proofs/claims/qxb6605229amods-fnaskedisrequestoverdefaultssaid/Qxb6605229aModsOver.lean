import Derived.Test.Qxb6605229aModsAsked
namespace Go.Proofs.Qxb6605229aMods
open Go.RowKit

theorem field0 (a b : Int) (w : World) : (Instr.field 24 (.agg #[.int .i32 a, .int .i32 b]) 0).run Trym.prog w = .ok (.int .i32 a) w := by kernel_rfl
theorem field1 (a b : Int) (w : World) : (Instr.field 24 (.agg #[.int .i32 a, .int .i32 b]) 1).run Trym.prog w = .ok (.int .i32 b) w := by kernel_rfl
theorem ov_0 (d : Int) : ov d 0 = 0 := by simp [ov]

set_option maxHeartbeats 1000000 in
theorem over_nn (P RF : Int) (w : World) :
    Calls Trym.prog 3 #[.int .i32 P, .int .i32 RF, .int .i32 (-1), .int .i16 (-1)] w fun e w' => e = .returned (.bool true) ∧ Grown w w' := by
  have e1 : ∀ d, ov d (-1) = d := ov_m1
  have e0 : ∀ d, ov d 0 = 0 := ov_0
  have g0 := field0
  have g1 := field1
  go_enter Trym.func3, Trym.ntmps3
  go_wp2_with (go_at_call 5; refine (asked_any _ _ _ _ (by omega) (by omega) _).mono ?_; rintro e w' ⟨rfl, o1, o2, rfl⟩)
  go_region_held3 (fun w' => w'.cell? ⟨w.heap.size, 0, none⟩ = some (.int .i32 P) ∧ w'.cell? ⟨w.heap.size, 1, none⟩ = some (.int .i32 RF) ∧ w'.cell? ⟨w.heap.size + 1 + 1 + 1, 0, none⟩ = some (.int .i32 P) ∧ w'.cell? ⟨w.heap.size + 1 + 1 + 1, 1, none⟩ = some (.int .i32 RF)) (simp [go_sem, World.cell?_alloc_past])
    ((go_at_call 5; refine (asked_any _ _ _ _ (by omega) (by omega) _).mono ?_; rintro e w' ⟨rfl, q1, q2, rfl⟩))
  go_wp2_with (go_at_call 5; refine (asked_any _ _ _ _ (by omega) (by omega) _).mono ?_; rintro e w' ⟨rfl, s1, s2, rfl⟩)
  go_region_held3 (fun w' => w'.cell? ⟨w.heap.size, 0, none⟩ = some (.int .i32 P) ∧ w'.cell? ⟨w.heap.size, 1, none⟩ = some (.int .i32 RF) ∧ w'.cell? ⟨w.heap.size + 1 + 1 + 1, 0, none⟩ = some (.int .i32 P) ∧ w'.cell? ⟨w.heap.size + 1 + 1 + 1, 1, none⟩ = some (.int .i32 RF)) (simp [go_sem, World.cell?_alloc_past])
    ((go_at_call 5; refine (asked_any _ _ _ _ (by omega) (by omega) _).mono ?_; rintro e w' ⟨rfl, q1, q2, rfl⟩))
  go_wp2_with (go_at_call 5; refine (asked_any _ _ _ _ (by omega) (by omega) _).mono ?_; rintro e w' ⟨rfl, s1, s2, rfl⟩)
  go_region_held3 (fun w' => w'.cell? ⟨w.heap.size, 0, none⟩ = some (.int .i32 P) ∧ w'.cell? ⟨w.heap.size, 1, none⟩ = some (.int .i32 RF) ∧ w'.cell? ⟨w.heap.size + 1 + 1 + 1, 0, none⟩ = some (.int .i32 P) ∧ w'.cell? ⟨w.heap.size + 1 + 1 + 1, 1, none⟩ = some (.int .i32 RF)) (simp [go_sem, World.cell?_alloc_past])
    ((go_at_call 5; refine (asked_any _ _ _ _ (by omega) (by omega) _).mono ?_; rintro e w' ⟨rfl, q1, q2, rfl⟩))
  go_wp2_with (go_at_call 5; refine (asked_any _ _ _ _ (by omega) (by omega) _).mono ?_; rintro e w' ⟨rfl, s1, s2, rfl⟩)
  all_goals
    go_ret
    exact ⟨rfl, by refine Grown.drew (Grown.drew (Grown.drew ?_)); (repeat apply Grown.alloc); exact Grown.refl _⟩

set_option maxHeartbeats 1000000 in
theorem over_yn (P RF p : Int) (hp : p ≠ -1) (w : World) :
    Calls Trym.prog 3 #[.int .i32 P, .int .i32 RF, .int .i32 p, .int .i16 (-1)] w fun e w' => e = .returned (.bool true) ∧ Grown w w' := by
  have e1 : ∀ d, ov d (-1) = d := ov_m1
  have e0 : ∀ d, ov d 0 = 0 := ov_0
  have g0 := field0
  have g1 := field1
  have e2 : ∀ d, ov d p = p := fun d => ov_ne d p hp
  go_enter Trym.func3, Trym.ntmps3
  go_wp2_with (go_at_call 5; refine (asked_any _ _ _ _ (by omega) (by omega) _).mono ?_; rintro e w' ⟨rfl, o1, o2, rfl⟩)
  go_region_held3 (fun w' => w'.cell? ⟨w.heap.size, 0, none⟩ = some (.int .i32 P) ∧ w'.cell? ⟨w.heap.size, 1, none⟩ = some (.int .i32 RF) ∧ w'.cell? ⟨w.heap.size + 1 + 1 + 1, 0, none⟩ = some (.int .i32 p) ∧ w'.cell? ⟨w.heap.size + 1 + 1 + 1, 1, none⟩ = some (.int .i32 RF)) (simp [go_sem, World.cell?_alloc_past])
    ((go_at_call 5; refine (asked_any _ _ _ _ (by omega) (by omega) _).mono ?_; rintro e w' ⟨rfl, q1, q2, rfl⟩))
  go_wp2_with (go_at_call 5; refine (asked_any _ _ _ _ (by omega) (by omega) _).mono ?_; rintro e w' ⟨rfl, s1, s2, rfl⟩)
  go_region_held3 (fun w' => w'.cell? ⟨w.heap.size, 0, none⟩ = some (.int .i32 P) ∧ w'.cell? ⟨w.heap.size, 1, none⟩ = some (.int .i32 RF) ∧ w'.cell? ⟨w.heap.size + 1 + 1 + 1, 0, none⟩ = some (.int .i32 p) ∧ w'.cell? ⟨w.heap.size + 1 + 1 + 1, 1, none⟩ = some (.int .i32 RF)) (simp [go_sem, World.cell?_alloc_past])
    ((go_at_call 5; refine (asked_any _ _ _ _ (by omega) (by omega) _).mono ?_; rintro e w' ⟨rfl, q1, q2, rfl⟩))
  go_wp2_with (go_at_call 5; refine (asked_any _ _ _ _ (by omega) (by omega) _).mono ?_; rintro e w' ⟨rfl, s1, s2, rfl⟩)
  go_region_held3 (fun w' => w'.cell? ⟨w.heap.size, 0, none⟩ = some (.int .i32 P) ∧ w'.cell? ⟨w.heap.size, 1, none⟩ = some (.int .i32 RF) ∧ w'.cell? ⟨w.heap.size + 1 + 1 + 1, 0, none⟩ = some (.int .i32 p) ∧ w'.cell? ⟨w.heap.size + 1 + 1 + 1, 1, none⟩ = some (.int .i32 RF)) (simp [go_sem, World.cell?_alloc_past])
    ((go_at_call 5; refine (asked_any _ _ _ _ (by omega) (by omega) _).mono ?_; rintro e w' ⟨rfl, q1, q2, rfl⟩))
  go_wp2_with (go_at_call 5; refine (asked_any _ _ _ _ (by omega) (by omega) _).mono ?_; rintro e w' ⟨rfl, s1, s2, rfl⟩)
  all_goals
    go_ret
    exact ⟨rfl, by refine Grown.drew (Grown.drew (Grown.drew ?_)); (repeat apply Grown.alloc); exact Grown.refl _⟩

set_option maxHeartbeats 1000000 in
theorem over_ny (P RF r : Int) (r0 : -32768 ≤ r) (r1 : r ≤ 32767) (hr : r ≠ -1) (w : World) :
    Calls Trym.prog 3 #[.int .i32 P, .int .i32 RF, .int .i32 (-1), .int .i16 r] w fun e w' => e = .returned (.bool true) ∧ Grown w w' := by
  have e1 : ∀ d, ov d (-1) = d := ov_m1
  have e0 : ∀ d, ov d 0 = 0 := ov_0
  have g0 := field0
  have g1 := field1
  have e3 : ∀ d, ov d r = r := fun d => ov_ne d r hr
  go_enter Trym.func3, Trym.ntmps3
  go_wp2_with (go_at_call 5; refine (asked_any _ _ _ _ (by omega) (by omega) _).mono ?_; rintro e w' ⟨rfl, o1, o2, rfl⟩)
  go_region_held3 (fun w' => w'.cell? ⟨w.heap.size, 0, none⟩ = some (.int .i32 P) ∧ w'.cell? ⟨w.heap.size, 1, none⟩ = some (.int .i32 RF) ∧ w'.cell? ⟨w.heap.size + 1 + 1 + 1, 0, none⟩ = some (.int .i32 P) ∧ w'.cell? ⟨w.heap.size + 1 + 1 + 1, 1, none⟩ = some (.int .i32 r)) (simp [go_sem, World.cell?_alloc_past])
    ((go_at_call 5; refine (asked_any _ _ _ _ (by omega) (by omega) _).mono ?_; rintro e w' ⟨rfl, q1, q2, rfl⟩))
  go_wp2_with (go_at_call 5; refine (asked_any _ _ _ _ (by omega) (by omega) _).mono ?_; rintro e w' ⟨rfl, s1, s2, rfl⟩)
  go_region_held3 (fun w' => w'.cell? ⟨w.heap.size, 0, none⟩ = some (.int .i32 P) ∧ w'.cell? ⟨w.heap.size, 1, none⟩ = some (.int .i32 RF) ∧ w'.cell? ⟨w.heap.size + 1 + 1 + 1, 0, none⟩ = some (.int .i32 P) ∧ w'.cell? ⟨w.heap.size + 1 + 1 + 1, 1, none⟩ = some (.int .i32 r)) (simp [go_sem, World.cell?_alloc_past])
    ((go_at_call 5; refine (asked_any _ _ _ _ (by omega) (by omega) _).mono ?_; rintro e w' ⟨rfl, q1, q2, rfl⟩))
  go_wp2_with (go_at_call 5; refine (asked_any _ _ _ _ (by omega) (by omega) _).mono ?_; rintro e w' ⟨rfl, s1, s2, rfl⟩)
  go_region_held3 (fun w' => w'.cell? ⟨w.heap.size, 0, none⟩ = some (.int .i32 P) ∧ w'.cell? ⟨w.heap.size, 1, none⟩ = some (.int .i32 RF) ∧ w'.cell? ⟨w.heap.size + 1 + 1 + 1, 0, none⟩ = some (.int .i32 P) ∧ w'.cell? ⟨w.heap.size + 1 + 1 + 1, 1, none⟩ = some (.int .i32 r)) (simp [go_sem, World.cell?_alloc_past])
    ((go_at_call 5; refine (asked_any _ _ _ _ (by omega) (by omega) _).mono ?_; rintro e w' ⟨rfl, q1, q2, rfl⟩))
  go_wp2_with (go_at_call 5; refine (asked_any _ _ _ _ (by omega) (by omega) _).mono ?_; rintro e w' ⟨rfl, s1, s2, rfl⟩)
  all_goals
    go_ret
    exact ⟨rfl, by refine Grown.drew (Grown.drew (Grown.drew ?_)); (repeat apply Grown.alloc); exact Grown.refl _⟩

set_option maxHeartbeats 1000000 in
theorem over_yy (P RF p r : Int) (r0 : -32768 ≤ r) (r1 : r ≤ 32767) (hp : p ≠ -1) (hr : r ≠ -1) (w : World) :
    Calls Trym.prog 3 #[.int .i32 P, .int .i32 RF, .int .i32 p, .int .i16 r] w fun e w' => e = .returned (.bool true) ∧ Grown w w' := by
  have e1 : ∀ d, ov d (-1) = d := ov_m1
  have e0 : ∀ d, ov d 0 = 0 := ov_0
  have g0 := field0
  have g1 := field1
  have e2 : ∀ d, ov d p = p := fun d => ov_ne d p hp
  have e3 : ∀ d, ov d r = r := fun d => ov_ne d r hr
  go_enter Trym.func3, Trym.ntmps3
  go_wp2_with (go_at_call 5; refine (asked_any _ _ _ _ (by omega) (by omega) _).mono ?_; rintro e w' ⟨rfl, o1, o2, rfl⟩)
  go_region_held3 (fun w' => w'.cell? ⟨w.heap.size, 0, none⟩ = some (.int .i32 P) ∧ w'.cell? ⟨w.heap.size, 1, none⟩ = some (.int .i32 RF) ∧ w'.cell? ⟨w.heap.size + 1 + 1 + 1, 0, none⟩ = some (.int .i32 p) ∧ w'.cell? ⟨w.heap.size + 1 + 1 + 1, 1, none⟩ = some (.int .i32 r)) (simp [go_sem, World.cell?_alloc_past])
    ((go_at_call 5; refine (asked_any _ _ _ _ (by omega) (by omega) _).mono ?_; rintro e w' ⟨rfl, q1, q2, rfl⟩))
  go_wp2_with (go_at_call 5; refine (asked_any _ _ _ _ (by omega) (by omega) _).mono ?_; rintro e w' ⟨rfl, s1, s2, rfl⟩)
  go_region_held3 (fun w' => w'.cell? ⟨w.heap.size, 0, none⟩ = some (.int .i32 P) ∧ w'.cell? ⟨w.heap.size, 1, none⟩ = some (.int .i32 RF) ∧ w'.cell? ⟨w.heap.size + 1 + 1 + 1, 0, none⟩ = some (.int .i32 p) ∧ w'.cell? ⟨w.heap.size + 1 + 1 + 1, 1, none⟩ = some (.int .i32 r)) (simp [go_sem, World.cell?_alloc_past])
    ((go_at_call 5; refine (asked_any _ _ _ _ (by omega) (by omega) _).mono ?_; rintro e w' ⟨rfl, q1, q2, rfl⟩))
  go_wp2_with (go_at_call 5; refine (asked_any _ _ _ _ (by omega) (by omega) _).mono ?_; rintro e w' ⟨rfl, s1, s2, rfl⟩)
  go_region_held3 (fun w' => w'.cell? ⟨w.heap.size, 0, none⟩ = some (.int .i32 P) ∧ w'.cell? ⟨w.heap.size, 1, none⟩ = some (.int .i32 RF) ∧ w'.cell? ⟨w.heap.size + 1 + 1 + 1, 0, none⟩ = some (.int .i32 p) ∧ w'.cell? ⟨w.heap.size + 1 + 1 + 1, 1, none⟩ = some (.int .i32 r)) (simp [go_sem, World.cell?_alloc_past])
    ((go_at_call 5; refine (asked_any _ _ _ _ (by omega) (by omega) _).mono ?_; rintro e w' ⟨rfl, q1, q2, rfl⟩))
  go_wp2_with (go_at_call 5; refine (asked_any _ _ _ _ (by omega) (by omega) _).mono ?_; rintro e w' ⟨rfl, s1, s2, rfl⟩)
  all_goals
    go_ret
    exact ⟨rfl, by refine Grown.drew (Grown.drew (Grown.drew ?_)); (repeat apply Grown.alloc); exact Grown.refl _⟩
end Go.Proofs.Qxb6605229aMods
