import Derived.Test.Qxb6605229aModsAsked
namespace Go.Proofs.Qxb6605229aMods
open Go.RowKit

theorem wrap16 (x : Int) (h0 : -32768 ≤ x) (h1 : x ≤ 32767) : IntKind.i16.wrap x = x := by
  simp [IntKind.wrap, IntKind.bits, IntKind.signed]
  omega

set_option maxHeartbeats 1000000 in
theorem back_yy (P RF p r : Int) (r0 : -32768 ≤ r) (r1 : r ≤ 32767) (hr : r ≠ -1) (hp : p ≠ -1) (w : World) :
    Calls Trym.prog 4 #[.int .i32 P, .int .i32 RF, .int .i32 p, .int .i16 r] w fun e w' => e = .returned (.bool true) ∧ Grown w w' := by
  have e1 : ∀ d, ov d (-1) = d := ov_m1
  have e_p : ∀ d, ov d p = p := fun d => ov_ne d p hp
  have b_p : (p != -1) = true := by simpa using hp
  have e_r : ∀ d, ov d r = r := fun d => ov_ne d r hr
  have b_r : (r != -1) = true := by simpa using hr
  have ew : IntKind.i16.wrap r = r := wrap16 r r0 r1
  go_enter Trym.func4, Trym.ntmps4
  go_wp2_with (go_at_call 5; refine (asked_any _ _ _ _ (by omega) (by omega) _).mono ?_; rintro e w' ⟨rfl, o1, o2, rfl⟩)
  go_region_held3 (fun w' => w'.cell? ⟨w.heap.size + 1 + 1 + 1, 0, none⟩ = some (.int .i32 p) ∧ w'.cell? ⟨w.heap.size + 1 + 1 + 1, 1, none⟩ = some (.int .i32 r)) (simp [go_sem, World.cell?_alloc_past]) ((go_at_call 5; refine (asked_any _ _ _ _ (by omega) (by omega) _).mono ?_; rintro e w' ⟨rfl, o1, o2, rfl⟩))
  go_wp2_with (go_at_call 5; refine (asked_any _ _ _ _ (by omega) (by omega) _).mono ?_; rintro e w' ⟨rfl, o1, o2, rfl⟩)
  go_region_held3 (fun w' => w'.cell? ⟨w.heap.size + 1 + 1 + 1, 0, none⟩ = some (.int .i32 p) ∧ w'.cell? ⟨w.heap.size + 1 + 1 + 1, 1, none⟩ = some (.int .i32 r) ∧ w'.cell? ⟨w.heap.size + 1 + 1 + 1 + 1 + 1 + 1, 0, none⟩ = some (.int .i32 RF) ∧ w'.cell? ⟨w.heap.size + 1 + 1 + 1 + 1 + 1 + 1, 1, none⟩ = some (.int .i32 P)) (simp [go_sem, World.cell?_alloc_past]) ((go_at_call 5; refine (asked_any _ _ _ _ (by omega) (by omega) _).mono ?_; rintro e w' ⟨rfl, o1, o2, rfl⟩))
  go_wp2_with (go_at_call 5; refine (asked_any _ _ _ _ (by omega) (by omega) _).mono ?_; rintro e w' ⟨rfl, o1, o2, rfl⟩)
  go_ret
  exact ⟨rfl, by (repeat apply Grown.drew); (repeat apply Grown.alloc); exact Grown.refl _⟩

set_option maxHeartbeats 1000000 in
theorem back_ny_far (P RF r : Int) (r0 : -32768 ≤ r) (r1 : r ≤ 32767) (hr : r ≠ -1) (hP : P ≠ -1) (w : World) :
    Calls Trym.prog 4 #[.int .i32 P, .int .i32 RF, .int .i32 (-1), .int .i16 r] w fun e w' => e = .returned (.bool true) ∧ Grown w w' := by
  have e1 : ∀ d, ov d (-1) = d := ov_m1
  have e_P : ∀ d, ov d P = P := fun d => ov_ne d P hP
  have b_P : (P != -1) = true := by simpa using hP
  have e_r : ∀ d, ov d r = r := fun d => ov_ne d r hr
  have b_r : (r != -1) = true := by simpa using hr
  have ew : IntKind.i16.wrap r = r := wrap16 r r0 r1
  go_enter Trym.func4, Trym.ntmps4
  go_wp2_with (go_at_call 5; refine (asked_any _ _ _ _ (by omega) (by omega) _).mono ?_; rintro e w' ⟨rfl, o1, o2, rfl⟩)
  go_region_held3 (fun w' => w'.cell? ⟨w.heap.size + 1 + 1 + 1, 0, none⟩ = some (.int .i32 P) ∧ w'.cell? ⟨w.heap.size + 1 + 1 + 1, 1, none⟩ = some (.int .i32 r)) (simp [go_sem, World.cell?_alloc_past]) ((go_at_call 5; refine (asked_any _ _ _ _ (by omega) (by omega) _).mono ?_; rintro e w' ⟨rfl, o1, o2, rfl⟩))
  go_wp2_with (go_at_call 5; refine (asked_any _ _ _ _ (by omega) (by omega) _).mono ?_; rintro e w' ⟨rfl, o1, o2, rfl⟩)
  go_region_held3 (fun w' => w'.cell? ⟨w.heap.size + 1 + 1 + 1, 0, none⟩ = some (.int .i32 P) ∧ w'.cell? ⟨w.heap.size + 1 + 1 + 1, 1, none⟩ = some (.int .i32 r) ∧ w'.cell? ⟨w.heap.size + 1 + 1 + 1 + 1 + 1 + 1, 0, none⟩ = some (.int .i32 RF) ∧ w'.cell? ⟨w.heap.size + 1 + 1 + 1 + 1 + 1 + 1, 1, none⟩ = some (.int .i32 P)) (simp [go_sem, World.cell?_alloc_past]) ((go_at_call 5; refine (asked_any _ _ _ _ (by omega) (by omega) _).mono ?_; rintro e w' ⟨rfl, o1, o2, rfl⟩))
  go_wp2_with (go_at_call 5; refine (asked_any _ _ _ _ (by omega) (by omega) _).mono ?_; rintro e w' ⟨rfl, o1, o2, rfl⟩)
  go_ret
  exact ⟨rfl, by (repeat apply Grown.drew); (repeat apply Grown.alloc); exact Grown.refl _⟩

set_option maxHeartbeats 1000000 in
theorem back_ny_near (RF r : Int) (r0 : -32768 ≤ r) (r1 : r ≤ 32767) (hr : r ≠ -1) (w : World) :
    Calls Trym.prog 4 #[.int .i32 (-1), .int .i32 RF, .int .i32 (-1), .int .i16 r] w fun e w' => e = .returned (.bool true) ∧ Grown w w' := by
  have e1 : ∀ d, ov d (-1) = d := ov_m1
  have e_r : ∀ d, ov d r = r := fun d => ov_ne d r hr
  have b_r : (r != -1) = true := by simpa using hr
  go_enter Trym.func4, Trym.ntmps4
  go_wp2_with (go_at_call 5; refine (asked_any _ _ _ _ (by omega) (by omega) _).mono ?_; rintro e w' ⟨rfl, o1, o2, rfl⟩)
  go_region_held3 (fun w' => w'.cell? ⟨w.heap.size + 1 + 1 + 1, 0, none⟩ = some (.int .i32 (-1)) ∧ w'.cell? ⟨w.heap.size + 1 + 1 + 1, 1, none⟩ = some (.int .i32 r)) (simp [go_sem, World.cell?_alloc_past]) ((go_at_call 5; refine (asked_any _ _ _ _ (by omega) (by omega) _).mono ?_; rintro e w' ⟨rfl, o1, o2, rfl⟩))
  go_wp2_with (go_at_call 5; refine (asked_any _ _ _ _ (by omega) (by omega) _).mono ?_; rintro e w' ⟨rfl, o1, o2, rfl⟩)
  go_ret
  exact ⟨rfl, by (repeat apply Grown.drew); (repeat apply Grown.alloc); exact Grown.refl _⟩

set_option maxHeartbeats 1000000 in
theorem back_yn_far (P RF p : Int) (hp : p ≠ -1) (hR : RF ≠ -1) (h0 : -32768 ≤ RF) (h1 : RF ≤ 32767) (w : World) :
    Calls Trym.prog 4 #[.int .i32 P, .int .i32 RF, .int .i32 p, .int .i16 (-1)] w fun e w' => e = .returned (.bool true) ∧ Grown w w' := by
  have e1 : ∀ d, ov d (-1) = d := ov_m1
  have e_p : ∀ d, ov d p = p := fun d => ov_ne d p hp
  have b_p : (p != -1) = true := by simpa using hp
  have e_RF : ∀ d, ov d RF = RF := fun d => ov_ne d RF hR
  have b_RF : (RF != -1) = true := by simpa using hR
  have ew : IntKind.i16.wrap RF = RF := wrap16 RF h0 h1
  go_enter Trym.func4, Trym.ntmps4
  go_wp2_with (go_at_call 5; refine (asked_any _ _ _ _ (by omega) (by omega) _).mono ?_; rintro e w' ⟨rfl, o1, o2, rfl⟩)
  go_region_held3 (fun w' => w'.cell? ⟨w.heap.size + 1 + 1 + 1, 0, none⟩ = some (.int .i32 p) ∧ w'.cell? ⟨w.heap.size + 1 + 1 + 1, 1, none⟩ = some (.int .i32 RF)) (simp [go_sem, World.cell?_alloc_past]) ((go_at_call 5; refine (asked_any _ _ _ _ (by omega) (by omega) _).mono ?_; rintro e w' ⟨rfl, o1, o2, rfl⟩))
  go_wp2_with (go_at_call 5; refine (asked_any _ _ _ _ (by omega) (by omega) _).mono ?_; rintro e w' ⟨rfl, o1, o2, rfl⟩)
  go_region_held3 (fun w' => w'.cell? ⟨w.heap.size + 1 + 1 + 1, 0, none⟩ = some (.int .i32 p) ∧ w'.cell? ⟨w.heap.size + 1 + 1 + 1, 1, none⟩ = some (.int .i32 RF) ∧ w'.cell? ⟨w.heap.size + 1 + 1 + 1 + 1 + 1 + 1, 0, none⟩ = some (.int .i32 RF) ∧ w'.cell? ⟨w.heap.size + 1 + 1 + 1 + 1 + 1 + 1, 1, none⟩ = some (.int .i32 P)) (simp [go_sem, World.cell?_alloc_past]) ((go_at_call 5; refine (asked_any _ _ _ _ (by omega) (by omega) _).mono ?_; rintro e w' ⟨rfl, o1, o2, rfl⟩))
  go_wp2_with (go_at_call 5; refine (asked_any _ _ _ _ (by omega) (by omega) _).mono ?_; rintro e w' ⟨rfl, o1, o2, rfl⟩)
  go_ret
  exact ⟨rfl, by (repeat apply Grown.drew); (repeat apply Grown.alloc); exact Grown.refl _⟩

set_option maxHeartbeats 1000000 in
theorem back_yn_near (P p : Int) (hp : p ≠ -1) (w : World) :
    Calls Trym.prog 4 #[.int .i32 P, .int .i32 (-1), .int .i32 p, .int .i16 (-1)] w fun e w' => e = .returned (.bool true) ∧ Grown w w' := by
  have e1 : ∀ d, ov d (-1) = d := ov_m1
  have e_p : ∀ d, ov d p = p := fun d => ov_ne d p hp
  have b_p : (p != -1) = true := by simpa using hp
  go_enter Trym.func4, Trym.ntmps4
  go_wp2_with (go_at_call 5; refine (asked_any _ _ _ _ (by omega) (by omega) _).mono ?_; rintro e w' ⟨rfl, o1, o2, rfl⟩)
  go_region_held3 (fun w' => w'.cell? ⟨w.heap.size + 1 + 1 + 1, 0, none⟩ = some (.int .i32 p) ∧ w'.cell? ⟨w.heap.size + 1 + 1 + 1, 1, none⟩ = some (.int .i32 (-1))) (simp [go_sem, World.cell?_alloc_past]) ((go_at_call 5; refine (asked_any _ _ _ _ (by omega) (by omega) _).mono ?_; rintro e w' ⟨rfl, o1, o2, rfl⟩))
  go_wp2_with (go_at_call 5; refine (asked_any _ _ _ _ (by omega) (by omega) _).mono ?_; rintro e w' ⟨rfl, o1, o2, rfl⟩)
  go_ret
  exact ⟨rfl, by (repeat apply Grown.drew); (repeat apply Grown.alloc); exact Grown.refl _⟩

set_option maxHeartbeats 1000000 in
theorem back_yn_low (P RF p : Int) (hp : p ≠ -1) (hR : RF < -32768) (w : World) :
    Calls Trym.prog 4 #[.int .i32 P, .int .i32 RF, .int .i32 p, .int .i16 (-1)] w fun e w' => e = .returned (.bool true) ∧ Grown w w' := by
  have e1 : ∀ d, ov d (-1) = d := ov_m1
  have e_p : ∀ d, ov d p = p := fun d => ov_ne d p hp
  have b_p : (p != -1) = true := by simpa using hp
  have e_RF : ∀ d, ov d RF = RF := fun d => ov_ne d RF (by omega)
  have b_RF : (RF != -1) = true := by simpa using (by omega)
  go_enter Trym.func4, Trym.ntmps4
  go_wp2_with (go_at_call 5; refine (asked_any _ _ _ _ (by omega) (by omega) _).mono ?_; rintro e w' ⟨rfl, o1, o2, rfl⟩)
  go_region_held3 (fun w' => w'.cell? ⟨w.heap.size + 1 + 1 + 1, 0, none⟩ = some (.int .i32 p) ∧ w'.cell? ⟨w.heap.size + 1 + 1 + 1, 1, none⟩ = some (.int .i32 RF)) (simp [go_sem, World.cell?_alloc_past]) ((go_at_call 5; refine (asked_any _ _ _ _ (by omega) (by omega) _).mono ?_; rintro e w' ⟨rfl, o1, o2, rfl⟩))
  go_wp2_with (go_at_call 5; refine (asked_any _ _ _ _ (by omega) (by omega) _).mono ?_; rintro e w' ⟨rfl, o1, o2, rfl⟩)
  go_ret
  exact ⟨rfl, by (repeat apply Grown.drew); (repeat apply Grown.alloc); exact Grown.refl _⟩

set_option maxHeartbeats 1000000 in
theorem back_yn_high (P RF p : Int) (hp : p ≠ -1) (hR : 32767 < RF) (w : World) :
    Calls Trym.prog 4 #[.int .i32 P, .int .i32 RF, .int .i32 p, .int .i16 (-1)] w fun e w' => e = .returned (.bool true) ∧ Grown w w' := by
  have e1 : ∀ d, ov d (-1) = d := ov_m1
  have e_p : ∀ d, ov d p = p := fun d => ov_ne d p hp
  have b_p : (p != -1) = true := by simpa using hp
  have e_RF : ∀ d, ov d RF = RF := fun d => ov_ne d RF (by omega)
  have b_RF : (RF != -1) = true := by simpa using (by omega)
  go_enter Trym.func4, Trym.ntmps4
  go_wp2_with (go_at_call 5; refine (asked_any _ _ _ _ (by omega) (by omega) _).mono ?_; rintro e w' ⟨rfl, o1, o2, rfl⟩)
  go_region_held3 (fun w' => w'.cell? ⟨w.heap.size + 1 + 1 + 1, 0, none⟩ = some (.int .i32 p) ∧ w'.cell? ⟨w.heap.size + 1 + 1 + 1, 1, none⟩ = some (.int .i32 RF)) (simp [go_sem, World.cell?_alloc_past]) ((go_at_call 5; refine (asked_any _ _ _ _ (by omega) (by omega) _).mono ?_; rintro e w' ⟨rfl, o1, o2, rfl⟩))
  go_wp2_with (go_at_call 5; refine (asked_any _ _ _ _ (by omega) (by omega) _).mono ?_; rintro e w' ⟨rfl, o1, o2, rfl⟩)
  go_ret
  exact ⟨rfl, by (repeat apply Grown.drew); (repeat apply Grown.alloc); exact Grown.refl _⟩

set_option maxHeartbeats 1000000 in
theorem back_nn_far (P RF : Int) (hP : P ≠ -1) (hR : RF ≠ -1) (h0 : -32768 ≤ RF) (h1 : RF ≤ 32767) (w : World) :
    Calls Trym.prog 4 #[.int .i32 P, .int .i32 RF, .int .i32 (-1), .int .i16 (-1)] w fun e w' => e = .returned (.bool true) ∧ Grown w w' := by
  have e1 : ∀ d, ov d (-1) = d := ov_m1
  have e_P : ∀ d, ov d P = P := fun d => ov_ne d P hP
  have b_P : (P != -1) = true := by simpa using hP
  have e_RF : ∀ d, ov d RF = RF := fun d => ov_ne d RF hR
  have b_RF : (RF != -1) = true := by simpa using hR
  have ew : IntKind.i16.wrap RF = RF := wrap16 RF h0 h1
  go_enter Trym.func4, Trym.ntmps4
  go_wp2_with (go_at_call 5; refine (asked_any _ _ _ _ (by omega) (by omega) _).mono ?_; rintro e w' ⟨rfl, o1, o2, rfl⟩)
  go_region_held3 (fun w' => w'.cell? ⟨w.heap.size + 1 + 1 + 1, 0, none⟩ = some (.int .i32 P) ∧ w'.cell? ⟨w.heap.size + 1 + 1 + 1, 1, none⟩ = some (.int .i32 RF)) (simp [go_sem, World.cell?_alloc_past]) ((go_at_call 5; refine (asked_any _ _ _ _ (by omega) (by omega) _).mono ?_; rintro e w' ⟨rfl, o1, o2, rfl⟩))
  go_wp2_with (go_at_call 5; refine (asked_any _ _ _ _ (by omega) (by omega) _).mono ?_; rintro e w' ⟨rfl, o1, o2, rfl⟩)
  go_region_held3 (fun w' => w'.cell? ⟨w.heap.size + 1 + 1 + 1, 0, none⟩ = some (.int .i32 P) ∧ w'.cell? ⟨w.heap.size + 1 + 1 + 1, 1, none⟩ = some (.int .i32 RF) ∧ w'.cell? ⟨w.heap.size + 1 + 1 + 1 + 1 + 1 + 1, 0, none⟩ = some (.int .i32 RF) ∧ w'.cell? ⟨w.heap.size + 1 + 1 + 1 + 1 + 1 + 1, 1, none⟩ = some (.int .i32 P)) (simp [go_sem, World.cell?_alloc_past]) ((go_at_call 5; refine (asked_any _ _ _ _ (by omega) (by omega) _).mono ?_; rintro e w' ⟨rfl, o1, o2, rfl⟩))
  go_wp2_with (go_at_call 5; refine (asked_any _ _ _ _ (by omega) (by omega) _).mono ?_; rintro e w' ⟨rfl, o1, o2, rfl⟩)
  go_ret
  exact ⟨rfl, by (repeat apply Grown.drew); (repeat apply Grown.alloc); exact Grown.refl _⟩

set_option maxHeartbeats 1000000 in
theorem back_nn_both  (w : World) :
    Calls Trym.prog 4 #[.int .i32 (-1), .int .i32 (-1), .int .i32 (-1), .int .i16 (-1)] w fun e w' => e = .returned (.bool true) ∧ Grown w w' := by
  have e1 : ∀ d, ov d (-1) = d := ov_m1
  go_enter Trym.func4, Trym.ntmps4
  go_wp2_with (go_at_call 5; refine (asked_any _ _ _ _ (by omega) (by omega) _).mono ?_; rintro e w' ⟨rfl, o1, o2, rfl⟩)
  go_region_held3 (fun w' => w'.cell? ⟨w.heap.size + 1 + 1 + 1, 0, none⟩ = some (.int .i32 (-1)) ∧ w'.cell? ⟨w.heap.size + 1 + 1 + 1, 1, none⟩ = some (.int .i32 (-1))) (simp [go_sem, World.cell?_alloc_past]) ((go_at_call 5; refine (asked_any _ _ _ _ (by omega) (by omega) _).mono ?_; rintro e w' ⟨rfl, o1, o2, rfl⟩))
  go_wp2_with (go_at_call 5; refine (asked_any _ _ _ _ (by omega) (by omega) _).mono ?_; rintro e w' ⟨rfl, o1, o2, rfl⟩)
  go_ret
  exact ⟨rfl, by (repeat apply Grown.drew); (repeat apply Grown.alloc); exact Grown.refl _⟩

set_option maxHeartbeats 1000000 in
theorem back_nn_P (RF : Int) (hR : RF ≠ -1) (w : World) :
    Calls Trym.prog 4 #[.int .i32 (-1), .int .i32 RF, .int .i32 (-1), .int .i16 (-1)] w fun e w' => e = .returned (.bool true) ∧ Grown w w' := by
  have e1 : ∀ d, ov d (-1) = d := ov_m1
  have e_RF : ∀ d, ov d RF = RF := fun d => ov_ne d RF hR
  have b_RF : (RF != -1) = true := by simpa using hR
  go_enter Trym.func4, Trym.ntmps4
  go_wp2_with (go_at_call 5; refine (asked_any _ _ _ _ (by omega) (by omega) _).mono ?_; rintro e w' ⟨rfl, o1, o2, rfl⟩)
  go_region_held3 (fun w' => w'.cell? ⟨w.heap.size + 1 + 1 + 1, 0, none⟩ = some (.int .i32 (-1)) ∧ w'.cell? ⟨w.heap.size + 1 + 1 + 1, 1, none⟩ = some (.int .i32 RF)) (simp [go_sem, World.cell?_alloc_past]) ((go_at_call 5; refine (asked_any _ _ _ _ (by omega) (by omega) _).mono ?_; rintro e w' ⟨rfl, o1, o2, rfl⟩))
  go_wp2_with (go_at_call 5; refine (asked_any _ _ _ _ (by omega) (by omega) _).mono ?_; rintro e w' ⟨rfl, o1, o2, rfl⟩)
  go_ret
  exact ⟨rfl, by (repeat apply Grown.drew); (repeat apply Grown.alloc); exact Grown.refl _⟩

set_option maxHeartbeats 1000000 in
theorem back_nn_R (P : Int) (hP : P ≠ -1) (w : World) :
    Calls Trym.prog 4 #[.int .i32 P, .int .i32 (-1), .int .i32 (-1), .int .i16 (-1)] w fun e w' => e = .returned (.bool true) ∧ Grown w w' := by
  have e1 : ∀ d, ov d (-1) = d := ov_m1
  have e_P : ∀ d, ov d P = P := fun d => ov_ne d P hP
  have b_P : (P != -1) = true := by simpa using hP
  go_enter Trym.func4, Trym.ntmps4
  go_wp2_with (go_at_call 5; refine (asked_any _ _ _ _ (by omega) (by omega) _).mono ?_; rintro e w' ⟨rfl, o1, o2, rfl⟩)
  go_region_held3 (fun w' => w'.cell? ⟨w.heap.size + 1 + 1 + 1, 0, none⟩ = some (.int .i32 P) ∧ w'.cell? ⟨w.heap.size + 1 + 1 + 1, 1, none⟩ = some (.int .i32 (-1))) (simp [go_sem, World.cell?_alloc_past]) ((go_at_call 5; refine (asked_any _ _ _ _ (by omega) (by omega) _).mono ?_; rintro e w' ⟨rfl, o1, o2, rfl⟩))
  go_wp2_with (go_at_call 5; refine (asked_any _ _ _ _ (by omega) (by omega) _).mono ?_; rintro e w' ⟨rfl, o1, o2, rfl⟩)
  go_ret
  exact ⟨rfl, by (repeat apply Grown.drew); (repeat apply Grown.alloc); exact Grown.refl _⟩

set_option maxHeartbeats 1000000 in
theorem back_nn_low (P RF : Int) (hP : P ≠ -1) (hR : RF < -32768) (w : World) :
    Calls Trym.prog 4 #[.int .i32 P, .int .i32 RF, .int .i32 (-1), .int .i16 (-1)] w fun e w' => e = .returned (.bool true) ∧ Grown w w' := by
  have e1 : ∀ d, ov d (-1) = d := ov_m1
  have e_P : ∀ d, ov d P = P := fun d => ov_ne d P hP
  have b_P : (P != -1) = true := by simpa using hP
  have e_RF : ∀ d, ov d RF = RF := fun d => ov_ne d RF (by omega)
  have b_RF : (RF != -1) = true := by simpa using (by omega)
  go_enter Trym.func4, Trym.ntmps4
  go_wp2_with (go_at_call 5; refine (asked_any _ _ _ _ (by omega) (by omega) _).mono ?_; rintro e w' ⟨rfl, o1, o2, rfl⟩)
  go_region_held3 (fun w' => w'.cell? ⟨w.heap.size + 1 + 1 + 1, 0, none⟩ = some (.int .i32 P) ∧ w'.cell? ⟨w.heap.size + 1 + 1 + 1, 1, none⟩ = some (.int .i32 RF)) (simp [go_sem, World.cell?_alloc_past]) ((go_at_call 5; refine (asked_any _ _ _ _ (by omega) (by omega) _).mono ?_; rintro e w' ⟨rfl, o1, o2, rfl⟩))
  go_wp2_with (go_at_call 5; refine (asked_any _ _ _ _ (by omega) (by omega) _).mono ?_; rintro e w' ⟨rfl, o1, o2, rfl⟩)
  go_ret
  exact ⟨rfl, by (repeat apply Grown.drew); (repeat apply Grown.alloc); exact Grown.refl _⟩

set_option maxHeartbeats 1000000 in
theorem back_nn_high (P RF : Int) (hP : P ≠ -1) (hR : 32767 < RF) (w : World) :
    Calls Trym.prog 4 #[.int .i32 P, .int .i32 RF, .int .i32 (-1), .int .i16 (-1)] w fun e w' => e = .returned (.bool true) ∧ Grown w w' := by
  have e1 : ∀ d, ov d (-1) = d := ov_m1
  have e_P : ∀ d, ov d P = P := fun d => ov_ne d P hP
  have b_P : (P != -1) = true := by simpa using hP
  have e_RF : ∀ d, ov d RF = RF := fun d => ov_ne d RF (by omega)
  have b_RF : (RF != -1) = true := by simpa using (by omega)
  go_enter Trym.func4, Trym.ntmps4
  go_wp2_with (go_at_call 5; refine (asked_any _ _ _ _ (by omega) (by omega) _).mono ?_; rintro e w' ⟨rfl, o1, o2, rfl⟩)
  go_region_held3 (fun w' => w'.cell? ⟨w.heap.size + 1 + 1 + 1, 0, none⟩ = some (.int .i32 P) ∧ w'.cell? ⟨w.heap.size + 1 + 1 + 1, 1, none⟩ = some (.int .i32 RF)) (simp [go_sem, World.cell?_alloc_past]) ((go_at_call 5; refine (asked_any _ _ _ _ (by omega) (by omega) _).mono ?_; rintro e w' ⟨rfl, o1, o2, rfl⟩))
  go_wp2_with (go_at_call 5; refine (asked_any _ _ _ _ (by omega) (by omega) _).mono ?_; rintro e w' ⟨rfl, o1, o2, rfl⟩)
  go_ret
  exact ⟨rfl, by (repeat apply Grown.drew); (repeat apply Grown.alloc); exact Grown.refl _⟩
end Go.Proofs.Qxb6605229aMods
