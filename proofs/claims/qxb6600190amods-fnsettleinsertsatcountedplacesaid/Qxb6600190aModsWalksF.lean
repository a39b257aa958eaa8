/- The walk of FnSettleInsertsAtCountedPlace: the place s, the place r where the value comes to rest: sixteen ways; others not in order: four; s out of range: two. -/
import Derived.Test.Qxb6600190aModsWalksE
namespace Go.Proofs.Qxb6600190aMods
open Go.RowKit
set_option linter.unusedVariables false

theorem Four.fresh (W : World) (b : Nat) (hb : b = W.heap.size) (x0 x1 x2 x3 : Int) (t : TypeId) : Four b (W.alloc (.cells #[.int .u32 x0, .int .u32 x1, .int .u32 x2, .int .u32 x3] t)) x0 x1 x2 x3 := by
  subst hb
  refine ⟨by simp, by simp, by simp, by simp, fun j => ?_⟩
  rw [frozen?_alloc_cells]; simp [World.frozen?]

set_option maxHeartbeats 1600000 in
theorem f8_0_0 (v o0 o1 o2 : Int) (hs : srt3 o0 o1 o2 = true) (t0 : ¬ o0 < v) (t1 : ¬ o1 < v) (t2 : ¬ o2 < v) (w : World) :
    Calls Trym.prog 8 #[.agg #[.int .u32 v, .int .u32 o0, .int .u32 o1, .int .u32 o2], .int .i64 0] w fun e w' => e = .returned (.bool true) ∧ Grown w w' := by
  go_enter Trym.func8, Trym.ntmps8
  go_wp2_with fail
  refine (os_0 v o0 o1 o2 _).mono ?_
  rintro e w' ⟨rfl, k1, k2, rfl⟩
  go_wp2
  refine wp_loop_rounds 5 ?_
  iterate 5 (rw [rounds_succ]; go_wp2)
  refine wp_loop_rounds 5 ?_
  iterate 5 (rw [rounds_succ]; go_wp2_with fail)
  refine (zzsettle_0_0 _ v o0 o1 o2 (by omega) _ (Four.fresh _ _ (by simp) _ _ _ _ _)).mono ?_
  rintro e w' ⟨rfl, hF, hO⟩
  have d0 : w'.cell? ⟨w.heap.size + 1 + 1 + 1, 0, none⟩ = some (.int .u32 o0) := (hO.cell _ _ (by omega)).trans (by go_simp)
  have d1 : w'.cell? ⟨w.heap.size + 1 + 1 + 1, 1, none⟩ = some (.int .u32 o1) := (hO.cell _ _ (by omega)).trans (by go_simp)
  have d2 : w'.cell? ⟨w.heap.size + 1 + 1 + 1, 2, none⟩ = some (.int .u32 o2) := (hO.cell _ _ (by omega)).trans (by go_simp)
  have hG := hO.grown (W := w) (by repeat (first | exact Grown.refl _ | apply Grown.drew | apply Grown.alloc)) (by omega)
  obtain ⟨c0, c1, c2, c3, fz⟩ := hF
  clear hO fz
  go_wp2
  refine wp_loop_rounds 5 ?_
  iterate 5 (rw [rounds_succ]; go_wp2_with fail)
  go_ret
  exact ⟨rfl, hG⟩
set_option maxHeartbeats 1600000 in
theorem f8_0_1 (v o0 o1 o2 : Int) (hs : srt3 o0 o1 o2 = true) (t0 : o0 < v) (t1 : ¬ o1 < v) (t2 : ¬ o2 < v) (w : World) :
    Calls Trym.prog 8 #[.agg #[.int .u32 v, .int .u32 o0, .int .u32 o1, .int .u32 o2], .int .i64 0] w fun e w' => e = .returned (.bool true) ∧ Grown w w' := by
  go_enter Trym.func8, Trym.ntmps8
  go_wp2_with fail
  refine (os_0 v o0 o1 o2 _).mono ?_
  rintro e w' ⟨rfl, k1, k2, rfl⟩
  go_wp2
  refine wp_loop_rounds 5 ?_
  iterate 5 (rw [rounds_succ]; go_wp2)
  refine wp_loop_rounds 5 ?_
  iterate 5 (rw [rounds_succ]; go_wp2_with fail)
  refine (zzsettle_0_1 _ v o0 o1 o2 (by omega) (by omega) _ (Four.fresh _ _ (by simp) _ _ _ _ _)).mono ?_
  rintro e w' ⟨rfl, hF, hO⟩
  have d0 : w'.cell? ⟨w.heap.size + 1 + 1 + 1, 0, none⟩ = some (.int .u32 o0) := (hO.cell _ _ (by omega)).trans (by go_simp)
  have d1 : w'.cell? ⟨w.heap.size + 1 + 1 + 1, 1, none⟩ = some (.int .u32 o1) := (hO.cell _ _ (by omega)).trans (by go_simp)
  have d2 : w'.cell? ⟨w.heap.size + 1 + 1 + 1, 2, none⟩ = some (.int .u32 o2) := (hO.cell _ _ (by omega)).trans (by go_simp)
  have hG := hO.grown (W := w) (by repeat (first | exact Grown.refl _ | apply Grown.drew | apply Grown.alloc)) (by omega)
  obtain ⟨c0, c1, c2, c3, fz⟩ := hF
  clear hO fz
  go_wp2
  refine wp_loop_rounds 5 ?_
  iterate 5 (rw [rounds_succ]; go_wp2_with fail)
  go_ret
  exact ⟨rfl, hG⟩
set_option maxHeartbeats 1600000 in
theorem f8_0_2 (v o0 o1 o2 : Int) (hs : srt3 o0 o1 o2 = true) (t0 : o0 < v) (t1 : o1 < v) (t2 : ¬ o2 < v) (w : World) :
    Calls Trym.prog 8 #[.agg #[.int .u32 v, .int .u32 o0, .int .u32 o1, .int .u32 o2], .int .i64 0] w fun e w' => e = .returned (.bool true) ∧ Grown w w' := by
  go_enter Trym.func8, Trym.ntmps8
  go_wp2_with fail
  refine (os_0 v o0 o1 o2 _).mono ?_
  rintro e w' ⟨rfl, k1, k2, rfl⟩
  go_wp2
  refine wp_loop_rounds 5 ?_
  iterate 5 (rw [rounds_succ]; go_wp2)
  refine wp_loop_rounds 5 ?_
  iterate 5 (rw [rounds_succ]; go_wp2_with fail)
  refine (zzsettle_0_2 _ v o0 o1 o2 (by omega) (by omega) (by omega) _ (Four.fresh _ _ (by simp) _ _ _ _ _)).mono ?_
  rintro e w' ⟨rfl, hF, hO⟩
  have d0 : w'.cell? ⟨w.heap.size + 1 + 1 + 1, 0, none⟩ = some (.int .u32 o0) := (hO.cell _ _ (by omega)).trans (by go_simp)
  have d1 : w'.cell? ⟨w.heap.size + 1 + 1 + 1, 1, none⟩ = some (.int .u32 o1) := (hO.cell _ _ (by omega)).trans (by go_simp)
  have d2 : w'.cell? ⟨w.heap.size + 1 + 1 + 1, 2, none⟩ = some (.int .u32 o2) := (hO.cell _ _ (by omega)).trans (by go_simp)
  have hG := hO.grown (W := w) (by repeat (first | exact Grown.refl _ | apply Grown.drew | apply Grown.alloc)) (by omega)
  obtain ⟨c0, c1, c2, c3, fz⟩ := hF
  clear hO fz
  go_wp2
  refine wp_loop_rounds 5 ?_
  iterate 5 (rw [rounds_succ]; go_wp2_with fail)
  go_ret
  exact ⟨rfl, hG⟩
set_option maxHeartbeats 1600000 in
theorem f8_0_3 (v o0 o1 o2 : Int) (hs : srt3 o0 o1 o2 = true) (t0 : o0 < v) (t1 : o1 < v) (t2 : o2 < v) (w : World) :
    Calls Trym.prog 8 #[.agg #[.int .u32 v, .int .u32 o0, .int .u32 o1, .int .u32 o2], .int .i64 0] w fun e w' => e = .returned (.bool true) ∧ Grown w w' := by
  go_enter Trym.func8, Trym.ntmps8
  go_wp2_with fail
  refine (os_0 v o0 o1 o2 _).mono ?_
  rintro e w' ⟨rfl, k1, k2, rfl⟩
  go_wp2
  refine wp_loop_rounds 5 ?_
  iterate 5 (rw [rounds_succ]; go_wp2)
  refine wp_loop_rounds 5 ?_
  iterate 5 (rw [rounds_succ]; go_wp2_with fail)
  refine (zzsettle_0_3 _ v o0 o1 o2 (by omega) (by omega) (by omega) _ (Four.fresh _ _ (by simp) _ _ _ _ _)).mono ?_
  rintro e w' ⟨rfl, hF, hO⟩
  have d0 : w'.cell? ⟨w.heap.size + 1 + 1 + 1, 0, none⟩ = some (.int .u32 o0) := (hO.cell _ _ (by omega)).trans (by go_simp)
  have d1 : w'.cell? ⟨w.heap.size + 1 + 1 + 1, 1, none⟩ = some (.int .u32 o1) := (hO.cell _ _ (by omega)).trans (by go_simp)
  have d2 : w'.cell? ⟨w.heap.size + 1 + 1 + 1, 2, none⟩ = some (.int .u32 o2) := (hO.cell _ _ (by omega)).trans (by go_simp)
  have hG := hO.grown (W := w) (by repeat (first | exact Grown.refl _ | apply Grown.drew | apply Grown.alloc)) (by omega)
  obtain ⟨c0, c1, c2, c3, fz⟩ := hF
  clear hO fz
  go_wp2
  refine wp_loop_rounds 5 ?_
  iterate 5 (rw [rounds_succ]; go_wp2_with fail)
  go_ret
  exact ⟨rfl, hG⟩
set_option maxHeartbeats 1600000 in
theorem f8_1_0 (v o0 o1 o2 : Int) (hs : srt3 o0 o1 o2 = true) (t0 : ¬ o0 ≤ v) (t1 : ¬ o1 < v) (t2 : ¬ o2 < v) (w : World) :
    Calls Trym.prog 8 #[.agg #[.int .u32 o0, .int .u32 v, .int .u32 o1, .int .u32 o2], .int .i64 1] w fun e w' => e = .returned (.bool true) ∧ Grown w w' := by
  go_enter Trym.func8, Trym.ntmps8
  go_wp2_with fail
  refine (os_1 v o0 o1 o2 _).mono ?_
  rintro e w' ⟨rfl, k1, k2, rfl⟩
  go_wp2
  refine wp_loop_rounds 5 ?_
  iterate 5 (rw [rounds_succ]; go_wp2)
  refine wp_loop_rounds 5 ?_
  iterate 5 (rw [rounds_succ]; go_wp2_with fail)
  refine (zzsettle_1_0 _ v o0 o1 o2 (by omega) _ (Four.fresh _ _ (by simp) _ _ _ _ _)).mono ?_
  rintro e w' ⟨rfl, hF, hO⟩
  have d0 : w'.cell? ⟨w.heap.size + 1 + 1 + 1, 0, none⟩ = some (.int .u32 o0) := (hO.cell _ _ (by omega)).trans (by go_simp)
  have d1 : w'.cell? ⟨w.heap.size + 1 + 1 + 1, 1, none⟩ = some (.int .u32 o1) := (hO.cell _ _ (by omega)).trans (by go_simp)
  have d2 : w'.cell? ⟨w.heap.size + 1 + 1 + 1, 2, none⟩ = some (.int .u32 o2) := (hO.cell _ _ (by omega)).trans (by go_simp)
  have hG := hO.grown (W := w) (by repeat (first | exact Grown.refl _ | apply Grown.drew | apply Grown.alloc)) (by omega)
  obtain ⟨c0, c1, c2, c3, fz⟩ := hF
  clear hO fz
  go_wp2
  refine wp_loop_rounds 5 ?_
  iterate 5 (rw [rounds_succ]; go_wp2_with fail)
  go_ret
  exact ⟨rfl, hG⟩
set_option maxHeartbeats 1600000 in
theorem f8_1_1 (v o0 o1 o2 : Int) (hs : srt3 o0 o1 o2 = true) (t0 : o0 ≤ v) (t1 : ¬ o1 < v) (t2 : ¬ o2 < v) (w : World) :
    Calls Trym.prog 8 #[.agg #[.int .u32 o0, .int .u32 v, .int .u32 o1, .int .u32 o2], .int .i64 1] w fun e w' => e = .returned (.bool true) ∧ Grown w w' := by
  go_enter Trym.func8, Trym.ntmps8
  go_wp2_with fail
  refine (os_1 v o0 o1 o2 _).mono ?_
  rintro e w' ⟨rfl, k1, k2, rfl⟩
  go_wp2
  refine wp_loop_rounds 5 ?_
  iterate 5 (rw [rounds_succ]; go_wp2)
  refine wp_loop_rounds 5 ?_
  iterate 5 (rw [rounds_succ]; go_wp2_with fail)
  refine (zzsettle_1_1 _ v o0 o1 o2 (by omega) (by omega) _ (Four.fresh _ _ (by simp) _ _ _ _ _)).mono ?_
  rintro e w' ⟨rfl, hF, hO⟩
  have d0 : w'.cell? ⟨w.heap.size + 1 + 1 + 1, 0, none⟩ = some (.int .u32 o0) := (hO.cell _ _ (by omega)).trans (by go_simp)
  have d1 : w'.cell? ⟨w.heap.size + 1 + 1 + 1, 1, none⟩ = some (.int .u32 o1) := (hO.cell _ _ (by omega)).trans (by go_simp)
  have d2 : w'.cell? ⟨w.heap.size + 1 + 1 + 1, 2, none⟩ = some (.int .u32 o2) := (hO.cell _ _ (by omega)).trans (by go_simp)
  have hG := hO.grown (W := w) (by repeat (first | exact Grown.refl _ | apply Grown.drew | apply Grown.alloc)) (by omega)
  obtain ⟨c0, c1, c2, c3, fz⟩ := hF
  clear hO fz
  go_wp2
  refine wp_loop_rounds 5 ?_
  iterate 5 (rw [rounds_succ]; go_wp2_with fail)
  go_ret
  exact ⟨rfl, hG⟩
set_option maxHeartbeats 1600000 in
theorem f8_1_2 (v o0 o1 o2 : Int) (hs : srt3 o0 o1 o2 = true) (t0 : o0 ≤ v) (t1 : o1 < v) (t2 : ¬ o2 < v) (w : World) :
    Calls Trym.prog 8 #[.agg #[.int .u32 o0, .int .u32 v, .int .u32 o1, .int .u32 o2], .int .i64 1] w fun e w' => e = .returned (.bool true) ∧ Grown w w' := by
  go_enter Trym.func8, Trym.ntmps8
  go_wp2_with fail
  refine (os_1 v o0 o1 o2 _).mono ?_
  rintro e w' ⟨rfl, k1, k2, rfl⟩
  go_wp2
  refine wp_loop_rounds 5 ?_
  iterate 5 (rw [rounds_succ]; go_wp2)
  refine wp_loop_rounds 5 ?_
  iterate 5 (rw [rounds_succ]; go_wp2_with fail)
  refine (zzsettle_1_2 _ v o0 o1 o2 (by omega) (by omega) (by omega) _ (Four.fresh _ _ (by simp) _ _ _ _ _)).mono ?_
  rintro e w' ⟨rfl, hF, hO⟩
  have d0 : w'.cell? ⟨w.heap.size + 1 + 1 + 1, 0, none⟩ = some (.int .u32 o0) := (hO.cell _ _ (by omega)).trans (by go_simp)
  have d1 : w'.cell? ⟨w.heap.size + 1 + 1 + 1, 1, none⟩ = some (.int .u32 o1) := (hO.cell _ _ (by omega)).trans (by go_simp)
  have d2 : w'.cell? ⟨w.heap.size + 1 + 1 + 1, 2, none⟩ = some (.int .u32 o2) := (hO.cell _ _ (by omega)).trans (by go_simp)
  have hG := hO.grown (W := w) (by repeat (first | exact Grown.refl _ | apply Grown.drew | apply Grown.alloc)) (by omega)
  obtain ⟨c0, c1, c2, c3, fz⟩ := hF
  clear hO fz
  go_wp2
  refine wp_loop_rounds 5 ?_
  iterate 5 (rw [rounds_succ]; go_wp2_with fail)
  go_ret
  exact ⟨rfl, hG⟩
set_option maxHeartbeats 1600000 in
theorem f8_1_3 (v o0 o1 o2 : Int) (hs : srt3 o0 o1 o2 = true) (t0 : o0 ≤ v) (t1 : o1 < v) (t2 : o2 < v) (w : World) :
    Calls Trym.prog 8 #[.agg #[.int .u32 o0, .int .u32 v, .int .u32 o1, .int .u32 o2], .int .i64 1] w fun e w' => e = .returned (.bool true) ∧ Grown w w' := by
  go_enter Trym.func8, Trym.ntmps8
  go_wp2_with fail
  refine (os_1 v o0 o1 o2 _).mono ?_
  rintro e w' ⟨rfl, k1, k2, rfl⟩
  go_wp2
  refine wp_loop_rounds 5 ?_
  iterate 5 (rw [rounds_succ]; go_wp2)
  refine wp_loop_rounds 5 ?_
  iterate 5 (rw [rounds_succ]; go_wp2_with fail)
  refine (zzsettle_1_3 _ v o0 o1 o2 (by omega) (by omega) (by omega) _ (Four.fresh _ _ (by simp) _ _ _ _ _)).mono ?_
  rintro e w' ⟨rfl, hF, hO⟩
  have d0 : w'.cell? ⟨w.heap.size + 1 + 1 + 1, 0, none⟩ = some (.int .u32 o0) := (hO.cell _ _ (by omega)).trans (by go_simp)
  have d1 : w'.cell? ⟨w.heap.size + 1 + 1 + 1, 1, none⟩ = some (.int .u32 o1) := (hO.cell _ _ (by omega)).trans (by go_simp)
  have d2 : w'.cell? ⟨w.heap.size + 1 + 1 + 1, 2, none⟩ = some (.int .u32 o2) := (hO.cell _ _ (by omega)).trans (by go_simp)
  have hG := hO.grown (W := w) (by repeat (first | exact Grown.refl _ | apply Grown.drew | apply Grown.alloc)) (by omega)
  obtain ⟨c0, c1, c2, c3, fz⟩ := hF
  clear hO fz
  go_wp2
  refine wp_loop_rounds 5 ?_
  iterate 5 (rw [rounds_succ]; go_wp2_with fail)
  go_ret
  exact ⟨rfl, hG⟩
set_option maxHeartbeats 1600000 in
theorem f8_2_0 (v o0 o1 o2 : Int) (hs : srt3 o0 o1 o2 = true) (t0 : ¬ o0 ≤ v) (t1 : ¬ o1 ≤ v) (t2 : ¬ o2 < v) (w : World) :
    Calls Trym.prog 8 #[.agg #[.int .u32 o0, .int .u32 o1, .int .u32 v, .int .u32 o2], .int .i64 2] w fun e w' => e = .returned (.bool true) ∧ Grown w w' := by
  go_enter Trym.func8, Trym.ntmps8
  go_wp2_with fail
  refine (os_2 v o0 o1 o2 _).mono ?_
  rintro e w' ⟨rfl, k1, k2, rfl⟩
  go_wp2
  refine wp_loop_rounds 5 ?_
  iterate 5 (rw [rounds_succ]; go_wp2)
  refine wp_loop_rounds 5 ?_
  iterate 5 (rw [rounds_succ]; go_wp2_with fail)
  refine (zzsettle_2_0 _ v o0 o1 o2 (by omega) (by omega) _ (Four.fresh _ _ (by simp) _ _ _ _ _)).mono ?_
  rintro e w' ⟨rfl, hF, hO⟩
  have d0 : w'.cell? ⟨w.heap.size + 1 + 1 + 1, 0, none⟩ = some (.int .u32 o0) := (hO.cell _ _ (by omega)).trans (by go_simp)
  have d1 : w'.cell? ⟨w.heap.size + 1 + 1 + 1, 1, none⟩ = some (.int .u32 o1) := (hO.cell _ _ (by omega)).trans (by go_simp)
  have d2 : w'.cell? ⟨w.heap.size + 1 + 1 + 1, 2, none⟩ = some (.int .u32 o2) := (hO.cell _ _ (by omega)).trans (by go_simp)
  have hG := hO.grown (W := w) (by repeat (first | exact Grown.refl _ | apply Grown.drew | apply Grown.alloc)) (by omega)
  obtain ⟨c0, c1, c2, c3, fz⟩ := hF
  clear hO fz
  go_wp2
  refine wp_loop_rounds 5 ?_
  iterate 5 (rw [rounds_succ]; go_wp2_with fail)
  go_ret
  exact ⟨rfl, hG⟩
set_option maxHeartbeats 1600000 in
theorem f8_2_1 (v o0 o1 o2 : Int) (hs : srt3 o0 o1 o2 = true) (t0 : o0 ≤ v) (t1 : ¬ o1 ≤ v) (t2 : ¬ o2 < v) (w : World) :
    Calls Trym.prog 8 #[.agg #[.int .u32 o0, .int .u32 o1, .int .u32 v, .int .u32 o2], .int .i64 2] w fun e w' => e = .returned (.bool true) ∧ Grown w w' := by
  go_enter Trym.func8, Trym.ntmps8
  go_wp2_with fail
  refine (os_2 v o0 o1 o2 _).mono ?_
  rintro e w' ⟨rfl, k1, k2, rfl⟩
  go_wp2
  refine wp_loop_rounds 5 ?_
  iterate 5 (rw [rounds_succ]; go_wp2)
  refine wp_loop_rounds 5 ?_
  iterate 5 (rw [rounds_succ]; go_wp2_with fail)
  refine (zzsettle_2_1 _ v o0 o1 o2 (by omega) (by omega) _ (Four.fresh _ _ (by simp) _ _ _ _ _)).mono ?_
  rintro e w' ⟨rfl, hF, hO⟩
  have d0 : w'.cell? ⟨w.heap.size + 1 + 1 + 1, 0, none⟩ = some (.int .u32 o0) := (hO.cell _ _ (by omega)).trans (by go_simp)
  have d1 : w'.cell? ⟨w.heap.size + 1 + 1 + 1, 1, none⟩ = some (.int .u32 o1) := (hO.cell _ _ (by omega)).trans (by go_simp)
  have d2 : w'.cell? ⟨w.heap.size + 1 + 1 + 1, 2, none⟩ = some (.int .u32 o2) := (hO.cell _ _ (by omega)).trans (by go_simp)
  have hG := hO.grown (W := w) (by repeat (first | exact Grown.refl _ | apply Grown.drew | apply Grown.alloc)) (by omega)
  obtain ⟨c0, c1, c2, c3, fz⟩ := hF
  clear hO fz
  go_wp2
  refine wp_loop_rounds 5 ?_
  iterate 5 (rw [rounds_succ]; go_wp2_with fail)
  go_ret
  exact ⟨rfl, hG⟩
set_option maxHeartbeats 1600000 in
theorem f8_2_2 (v o0 o1 o2 : Int) (hs : srt3 o0 o1 o2 = true) (t0 : o0 ≤ v) (t1 : o1 ≤ v) (t2 : ¬ o2 < v) (w : World) :
    Calls Trym.prog 8 #[.agg #[.int .u32 o0, .int .u32 o1, .int .u32 v, .int .u32 o2], .int .i64 2] w fun e w' => e = .returned (.bool true) ∧ Grown w w' := by
  go_enter Trym.func8, Trym.ntmps8
  go_wp2_with fail
  refine (os_2 v o0 o1 o2 _).mono ?_
  rintro e w' ⟨rfl, k1, k2, rfl⟩
  go_wp2
  refine wp_loop_rounds 5 ?_
  iterate 5 (rw [rounds_succ]; go_wp2)
  refine wp_loop_rounds 5 ?_
  iterate 5 (rw [rounds_succ]; go_wp2_with fail)
  refine (zzsettle_2_2 _ v o0 o1 o2 (by omega) (by omega) _ (Four.fresh _ _ (by simp) _ _ _ _ _)).mono ?_
  rintro e w' ⟨rfl, hF, hO⟩
  have d0 : w'.cell? ⟨w.heap.size + 1 + 1 + 1, 0, none⟩ = some (.int .u32 o0) := (hO.cell _ _ (by omega)).trans (by go_simp)
  have d1 : w'.cell? ⟨w.heap.size + 1 + 1 + 1, 1, none⟩ = some (.int .u32 o1) := (hO.cell _ _ (by omega)).trans (by go_simp)
  have d2 : w'.cell? ⟨w.heap.size + 1 + 1 + 1, 2, none⟩ = some (.int .u32 o2) := (hO.cell _ _ (by omega)).trans (by go_simp)
  have hG := hO.grown (W := w) (by repeat (first | exact Grown.refl _ | apply Grown.drew | apply Grown.alloc)) (by omega)
  obtain ⟨c0, c1, c2, c3, fz⟩ := hF
  clear hO fz
  go_wp2
  refine wp_loop_rounds 5 ?_
  iterate 5 (rw [rounds_succ]; go_wp2_with fail)
  go_ret
  exact ⟨rfl, hG⟩
set_option maxHeartbeats 1600000 in
theorem f8_2_3 (v o0 o1 o2 : Int) (hs : srt3 o0 o1 o2 = true) (t0 : o0 ≤ v) (t1 : o1 ≤ v) (t2 : o2 < v) (w : World) :
    Calls Trym.prog 8 #[.agg #[.int .u32 o0, .int .u32 o1, .int .u32 v, .int .u32 o2], .int .i64 2] w fun e w' => e = .returned (.bool true) ∧ Grown w w' := by
  go_enter Trym.func8, Trym.ntmps8
  go_wp2_with fail
  refine (os_2 v o0 o1 o2 _).mono ?_
  rintro e w' ⟨rfl, k1, k2, rfl⟩
  go_wp2
  refine wp_loop_rounds 5 ?_
  iterate 5 (rw [rounds_succ]; go_wp2)
  refine wp_loop_rounds 5 ?_
  iterate 5 (rw [rounds_succ]; go_wp2_with fail)
  refine (zzsettle_2_3 _ v o0 o1 o2 (by omega) (by omega) _ (Four.fresh _ _ (by simp) _ _ _ _ _)).mono ?_
  rintro e w' ⟨rfl, hF, hO⟩
  have d0 : w'.cell? ⟨w.heap.size + 1 + 1 + 1, 0, none⟩ = some (.int .u32 o0) := (hO.cell _ _ (by omega)).trans (by go_simp)
  have d1 : w'.cell? ⟨w.heap.size + 1 + 1 + 1, 1, none⟩ = some (.int .u32 o1) := (hO.cell _ _ (by omega)).trans (by go_simp)
  have d2 : w'.cell? ⟨w.heap.size + 1 + 1 + 1, 2, none⟩ = some (.int .u32 o2) := (hO.cell _ _ (by omega)).trans (by go_simp)
  have hG := hO.grown (W := w) (by repeat (first | exact Grown.refl _ | apply Grown.drew | apply Grown.alloc)) (by omega)
  obtain ⟨c0, c1, c2, c3, fz⟩ := hF
  clear hO fz
  go_wp2
  refine wp_loop_rounds 5 ?_
  iterate 5 (rw [rounds_succ]; go_wp2_with fail)
  go_ret
  exact ⟨rfl, hG⟩
set_option maxHeartbeats 1600000 in
theorem f8_3_0 (v o0 o1 o2 : Int) (hs : srt3 o0 o1 o2 = true) (t0 : ¬ o0 ≤ v) (t1 : ¬ o1 ≤ v) (t2 : ¬ o2 ≤ v) (w : World) :
    Calls Trym.prog 8 #[.agg #[.int .u32 o0, .int .u32 o1, .int .u32 o2, .int .u32 v], .int .i64 3] w fun e w' => e = .returned (.bool true) ∧ Grown w w' := by
  go_enter Trym.func8, Trym.ntmps8
  go_wp2_with fail
  refine (os_3 v o0 o1 o2 _).mono ?_
  rintro e w' ⟨rfl, k1, k2, rfl⟩
  go_wp2
  refine wp_loop_rounds 5 ?_
  iterate 5 (rw [rounds_succ]; go_wp2)
  refine wp_loop_rounds 5 ?_
  iterate 5 (rw [rounds_succ]; go_wp2_with fail)
  refine (zzsettle_3_0 _ v o0 o1 o2 (by omega) (by omega) (by omega) _ (Four.fresh _ _ (by simp) _ _ _ _ _)).mono ?_
  rintro e w' ⟨rfl, hF, hO⟩
  have d0 : w'.cell? ⟨w.heap.size + 1 + 1 + 1, 0, none⟩ = some (.int .u32 o0) := (hO.cell _ _ (by omega)).trans (by go_simp)
  have d1 : w'.cell? ⟨w.heap.size + 1 + 1 + 1, 1, none⟩ = some (.int .u32 o1) := (hO.cell _ _ (by omega)).trans (by go_simp)
  have d2 : w'.cell? ⟨w.heap.size + 1 + 1 + 1, 2, none⟩ = some (.int .u32 o2) := (hO.cell _ _ (by omega)).trans (by go_simp)
  have hG := hO.grown (W := w) (by repeat (first | exact Grown.refl _ | apply Grown.drew | apply Grown.alloc)) (by omega)
  obtain ⟨c0, c1, c2, c3, fz⟩ := hF
  clear hO fz
  go_wp2
  refine wp_loop_rounds 5 ?_
  iterate 5 (rw [rounds_succ]; go_wp2_with fail)
  go_ret
  exact ⟨rfl, hG⟩
set_option maxHeartbeats 1600000 in
theorem f8_3_1 (v o0 o1 o2 : Int) (hs : srt3 o0 o1 o2 = true) (t0 : o0 ≤ v) (t1 : ¬ o1 ≤ v) (t2 : ¬ o2 ≤ v) (w : World) :
    Calls Trym.prog 8 #[.agg #[.int .u32 o0, .int .u32 o1, .int .u32 o2, .int .u32 v], .int .i64 3] w fun e w' => e = .returned (.bool true) ∧ Grown w w' := by
  go_enter Trym.func8, Trym.ntmps8
  go_wp2_with fail
  refine (os_3 v o0 o1 o2 _).mono ?_
  rintro e w' ⟨rfl, k1, k2, rfl⟩
  go_wp2
  refine wp_loop_rounds 5 ?_
  iterate 5 (rw [rounds_succ]; go_wp2)
  refine wp_loop_rounds 5 ?_
  iterate 5 (rw [rounds_succ]; go_wp2_with fail)
  refine (zzsettle_3_1 _ v o0 o1 o2 (by omega) (by omega) (by omega) _ (Four.fresh _ _ (by simp) _ _ _ _ _)).mono ?_
  rintro e w' ⟨rfl, hF, hO⟩
  have d0 : w'.cell? ⟨w.heap.size + 1 + 1 + 1, 0, none⟩ = some (.int .u32 o0) := (hO.cell _ _ (by omega)).trans (by go_simp)
  have d1 : w'.cell? ⟨w.heap.size + 1 + 1 + 1, 1, none⟩ = some (.int .u32 o1) := (hO.cell _ _ (by omega)).trans (by go_simp)
  have d2 : w'.cell? ⟨w.heap.size + 1 + 1 + 1, 2, none⟩ = some (.int .u32 o2) := (hO.cell _ _ (by omega)).trans (by go_simp)
  have hG := hO.grown (W := w) (by repeat (first | exact Grown.refl _ | apply Grown.drew | apply Grown.alloc)) (by omega)
  obtain ⟨c0, c1, c2, c3, fz⟩ := hF
  clear hO fz
  go_wp2
  refine wp_loop_rounds 5 ?_
  iterate 5 (rw [rounds_succ]; go_wp2_with fail)
  go_ret
  exact ⟨rfl, hG⟩
set_option maxHeartbeats 1600000 in
theorem f8_3_2 (v o0 o1 o2 : Int) (hs : srt3 o0 o1 o2 = true) (t0 : o0 ≤ v) (t1 : o1 ≤ v) (t2 : ¬ o2 ≤ v) (w : World) :
    Calls Trym.prog 8 #[.agg #[.int .u32 o0, .int .u32 o1, .int .u32 o2, .int .u32 v], .int .i64 3] w fun e w' => e = .returned (.bool true) ∧ Grown w w' := by
  go_enter Trym.func8, Trym.ntmps8
  go_wp2_with fail
  refine (os_3 v o0 o1 o2 _).mono ?_
  rintro e w' ⟨rfl, k1, k2, rfl⟩
  go_wp2
  refine wp_loop_rounds 5 ?_
  iterate 5 (rw [rounds_succ]; go_wp2)
  refine wp_loop_rounds 5 ?_
  iterate 5 (rw [rounds_succ]; go_wp2_with fail)
  refine (zzsettle_3_2 _ v o0 o1 o2 (by omega) (by omega) _ (Four.fresh _ _ (by simp) _ _ _ _ _)).mono ?_
  rintro e w' ⟨rfl, hF, hO⟩
  have d0 : w'.cell? ⟨w.heap.size + 1 + 1 + 1, 0, none⟩ = some (.int .u32 o0) := (hO.cell _ _ (by omega)).trans (by go_simp)
  have d1 : w'.cell? ⟨w.heap.size + 1 + 1 + 1, 1, none⟩ = some (.int .u32 o1) := (hO.cell _ _ (by omega)).trans (by go_simp)
  have d2 : w'.cell? ⟨w.heap.size + 1 + 1 + 1, 2, none⟩ = some (.int .u32 o2) := (hO.cell _ _ (by omega)).trans (by go_simp)
  have hG := hO.grown (W := w) (by repeat (first | exact Grown.refl _ | apply Grown.drew | apply Grown.alloc)) (by omega)
  obtain ⟨c0, c1, c2, c3, fz⟩ := hF
  clear hO fz
  go_wp2
  refine wp_loop_rounds 5 ?_
  iterate 5 (rw [rounds_succ]; go_wp2_with fail)
  go_ret
  exact ⟨rfl, hG⟩
set_option maxHeartbeats 1600000 in
theorem f8_3_3 (v o0 o1 o2 : Int) (hs : srt3 o0 o1 o2 = true) (t0 : o0 ≤ v) (t1 : o1 ≤ v) (t2 : o2 ≤ v) (w : World) :
    Calls Trym.prog 8 #[.agg #[.int .u32 o0, .int .u32 o1, .int .u32 o2, .int .u32 v], .int .i64 3] w fun e w' => e = .returned (.bool true) ∧ Grown w w' := by
  go_enter Trym.func8, Trym.ntmps8
  go_wp2_with fail
  refine (os_3 v o0 o1 o2 _).mono ?_
  rintro e w' ⟨rfl, k1, k2, rfl⟩
  go_wp2
  refine wp_loop_rounds 5 ?_
  iterate 5 (rw [rounds_succ]; go_wp2)
  refine wp_loop_rounds 5 ?_
  iterate 5 (rw [rounds_succ]; go_wp2_with fail)
  refine (zzsettle_3_3 _ v o0 o1 o2 (by omega) _ (Four.fresh _ _ (by simp) _ _ _ _ _)).mono ?_
  rintro e w' ⟨rfl, hF, hO⟩
  have d0 : w'.cell? ⟨w.heap.size + 1 + 1 + 1, 0, none⟩ = some (.int .u32 o0) := (hO.cell _ _ (by omega)).trans (by go_simp)
  have d1 : w'.cell? ⟨w.heap.size + 1 + 1 + 1, 1, none⟩ = some (.int .u32 o1) := (hO.cell _ _ (by omega)).trans (by go_simp)
  have d2 : w'.cell? ⟨w.heap.size + 1 + 1 + 1, 2, none⟩ = some (.int .u32 o2) := (hO.cell _ _ (by omega)).trans (by go_simp)
  have hG := hO.grown (W := w) (by repeat (first | exact Grown.refl _ | apply Grown.drew | apply Grown.alloc)) (by omega)
  obtain ⟨c0, c1, c2, c3, fz⟩ := hF
  clear hO fz
  go_wp2
  refine wp_loop_rounds 5 ?_
  iterate 5 (rw [rounds_succ]; go_wp2_with fail)
  go_ret
  exact ⟨rfl, hG⟩
set_option maxHeartbeats 1600000 in
theorem f8_0 (v o0 o1 o2 : Int) (w : World) :
    Calls Trym.prog 8 #[.agg #[.int .u32 v, .int .u32 o0, .int .u32 o1, .int .u32 o2], .int .i64 0] w fun e w' => e = .returned (.bool true) ∧ Grown w w' := by
  by_cases hs : srt3 o0 o1 o2 = true
  · have hd : o0 ≤ o1 ∧ o1 ≤ o2 := of_decide_eq_true hs
    obtain ⟨g1, g2⟩ := hd
    by_cases t0 : o0 < v <;> by_cases t1 : o1 < v <;> by_cases t2 : o2 < v
    · exact f8_0_3 v o0 o1 o2 hs t0 t1 t2 w
    · exact f8_0_2 v o0 o1 o2 hs t0 t1 t2 w
    · exfalso; omega
    · exact f8_0_1 v o0 o1 o2 hs t0 t1 t2 w
    · exfalso; omega
    · exfalso; omega
    · exfalso; omega
    · exact f8_0_0 v o0 o1 o2 hs t0 t1 t2 w
  · have hs' : srt3 o0 o1 o2 = false := by simpa using hs
    clear hs
    go_enter Trym.func8, Trym.ntmps8
    go_wp2_with fail
    refine (os_0 v o0 o1 o2 _).mono ?_
    rintro e w' ⟨rfl, k1, k2, rfl⟩
    go_wp2
    go_ret
    exact ⟨rfl, by repeat (first | exact Grown.refl _ | apply Grown.drew | apply Grown.alloc)⟩
set_option maxHeartbeats 1600000 in
theorem f8_1 (v o0 o1 o2 : Int) (w : World) :
    Calls Trym.prog 8 #[.agg #[.int .u32 o0, .int .u32 v, .int .u32 o1, .int .u32 o2], .int .i64 1] w fun e w' => e = .returned (.bool true) ∧ Grown w w' := by
  by_cases hs : srt3 o0 o1 o2 = true
  · have hd : o0 ≤ o1 ∧ o1 ≤ o2 := of_decide_eq_true hs
    obtain ⟨g1, g2⟩ := hd
    by_cases t0 : o0 ≤ v <;> by_cases t1 : o1 < v <;> by_cases t2 : o2 < v
    · exact f8_1_3 v o0 o1 o2 hs t0 t1 t2 w
    · exact f8_1_2 v o0 o1 o2 hs t0 t1 t2 w
    · exfalso; omega
    · exact f8_1_1 v o0 o1 o2 hs t0 t1 t2 w
    · exfalso; omega
    · exfalso; omega
    · exfalso; omega
    · exact f8_1_0 v o0 o1 o2 hs t0 t1 t2 w
  · have hs' : srt3 o0 o1 o2 = false := by simpa using hs
    clear hs
    go_enter Trym.func8, Trym.ntmps8
    go_wp2_with fail
    refine (os_1 v o0 o1 o2 _).mono ?_
    rintro e w' ⟨rfl, k1, k2, rfl⟩
    go_wp2
    go_ret
    exact ⟨rfl, by repeat (first | exact Grown.refl _ | apply Grown.drew | apply Grown.alloc)⟩
set_option maxHeartbeats 1600000 in
theorem f8_2 (v o0 o1 o2 : Int) (w : World) :
    Calls Trym.prog 8 #[.agg #[.int .u32 o0, .int .u32 o1, .int .u32 v, .int .u32 o2], .int .i64 2] w fun e w' => e = .returned (.bool true) ∧ Grown w w' := by
  by_cases hs : srt3 o0 o1 o2 = true
  · have hd : o0 ≤ o1 ∧ o1 ≤ o2 := of_decide_eq_true hs
    obtain ⟨g1, g2⟩ := hd
    by_cases t0 : o0 ≤ v <;> by_cases t1 : o1 ≤ v <;> by_cases t2 : o2 < v
    · exact f8_2_3 v o0 o1 o2 hs t0 t1 t2 w
    · exact f8_2_2 v o0 o1 o2 hs t0 t1 t2 w
    · exfalso; omega
    · exact f8_2_1 v o0 o1 o2 hs t0 t1 t2 w
    · exfalso; omega
    · exfalso; omega
    · exfalso; omega
    · exact f8_2_0 v o0 o1 o2 hs t0 t1 t2 w
  · have hs' : srt3 o0 o1 o2 = false := by simpa using hs
    clear hs
    go_enter Trym.func8, Trym.ntmps8
    go_wp2_with fail
    refine (os_2 v o0 o1 o2 _).mono ?_
    rintro e w' ⟨rfl, k1, k2, rfl⟩
    go_wp2
    go_ret
    exact ⟨rfl, by repeat (first | exact Grown.refl _ | apply Grown.drew | apply Grown.alloc)⟩
set_option maxHeartbeats 1600000 in
theorem f8_3 (v o0 o1 o2 : Int) (w : World) :
    Calls Trym.prog 8 #[.agg #[.int .u32 o0, .int .u32 o1, .int .u32 o2, .int .u32 v], .int .i64 3] w fun e w' => e = .returned (.bool true) ∧ Grown w w' := by
  by_cases hs : srt3 o0 o1 o2 = true
  · have hd : o0 ≤ o1 ∧ o1 ≤ o2 := of_decide_eq_true hs
    obtain ⟨g1, g2⟩ := hd
    by_cases t0 : o0 ≤ v <;> by_cases t1 : o1 ≤ v <;> by_cases t2 : o2 ≤ v
    · exact f8_3_3 v o0 o1 o2 hs t0 t1 t2 w
    · exact f8_3_2 v o0 o1 o2 hs t0 t1 t2 w
    · exfalso; omega
    · exact f8_3_1 v o0 o1 o2 hs t0 t1 t2 w
    · exfalso; omega
    · exfalso; omega
    · exfalso; omega
    · exact f8_3_0 v o0 o1 o2 hs t0 t1 t2 w
  · have hs' : srt3 o0 o1 o2 = false := by simpa using hs
    clear hs
    go_enter Trym.func8, Trym.ntmps8
    go_wp2_with fail
    refine (os_3 v o0 o1 o2 _).mono ?_
    rintro e w' ⟨rfl, k1, k2, rfl⟩
    go_wp2
    go_ret
    exact ⟨rfl, by repeat (first | exact Grown.refl _ | apply Grown.drew | apply Grown.alloc)⟩
set_option maxHeartbeats 1600000 in
theorem f8_any (x0 x1 x2 x3 s : Int) (w : World) :
    Calls Trym.prog 8 #[.agg #[.int .u32 x0, .int .u32 x1, .int .u32 x2, .int .u32 x3], .int .i64 s] w fun e w' => e = .returned (.bool true) ∧ Grown w w' := by
  by_cases l : s < 0
  · go_enter Trym.func8, Trym.ntmps8
    go_wp2
    go_ret
    exact ⟨rfl, by repeat (first | exact Grown.refl _ | apply Grown.drew | apply Grown.alloc)⟩
  by_cases g : 3 < s
  · go_enter Trym.func8, Trym.ntmps8
    go_wp2
    go_ret
    exact ⟨rfl, by repeat (first | exact Grown.refl _ | apply Grown.drew | apply Grown.alloc)⟩
  have h : s = 0 ∨ s = 1 ∨ s = 2 ∨ s = 3 := by omega
  rcases h with rfl | rfl | rfl | rfl
  · exact f8_0 x0 x1 x2 x3 w
  · exact f8_1 x1 x0 x2 x3 w
  · exact f8_2 x2 x0 x1 x3 w
  · exact f8_3 x3 x0 x1 x2 w
end Go.Proofs.Qxb6600190aMods
