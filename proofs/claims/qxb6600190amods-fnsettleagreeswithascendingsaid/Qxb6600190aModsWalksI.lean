/- The walk of FnSettleAgreesWithAscending: sixteen ways (place s, place r), others not in order, s out of range. -/
import Derived.Test.Qxb6600190aModsWalksE
import Derived.Test.Qxb6600190aModsWalksP
import Derived.Test.Qxb6600190aModsWalksQ
namespace Go.Proofs.Qxb6600190aMods
open Go.RowKit
set_option linter.unusedVariables false

theorem Four.fresh9 (W : World) (b : Nat) (hb : b = W.heap.size) (x0 x1 x2 x3 : Int) (t : TypeId) : Four b (W.alloc (.cells #[.int .u32 x0, .int .u32 x1, .int .u32 x2, .int .u32 x3] t)) x0 x1 x2 x3 := by
  subst hb
  refine ⟨by simp, by simp, by simp, by simp, fun j => ?_⟩
  rw [frozen?_alloc_cells]; simp [World.frozen?]

set_option maxHeartbeats 1600000 in
theorem f9_0_0 (x0 x1 x2 x3 v o0 o1 o2 : Int) (e0 : bits .and .u32 x0 15 = v) (e1 : bits .and .u32 x1 15 = o0) (e2 : bits .and .u32 x2 15 = o1) (e3 : bits .and .u32 x3 15 = o2)
    (nv : Nib v) (n0 : Nib o0) (n1 : Nib o1) (n2 : Nib o2) (hs : srt3 o0 o1 o2 = true) (t0 : ¬ o0 < v) (t1 : ¬ o1 < v) (t2 : ¬ o2 < v) (w : World) :
    Calls Trym.prog 9 #[.agg #[.int .u32 x0, .int .u32 x1, .int .u32 x2, .int .u32 x3], .int .i64 0] w fun e w' => e = .returned (.bool true) ∧ Grown w w' := by
  have hd : o0 ≤ o1 ∧ o1 ≤ o2 := of_decide_eq_true hs
  have A1 : ascB v o0 o1 o2 = true := decide_eq_true (by omega)
  have A3 : beq4 v o0 o1 o2 v o0 o1 o2 = true := beq4_same _ _ _ _
  have QE := run_eq4
  clear hd
  go_enter Trym.func9, Trym.ntmps9
  go_wp2
  refine wp_loop_rounds 5 ?_
  iterate 5 (rw [rounds_succ]; go_wp2_with fail)
  refine (os_0 v o0 o1 o2 _).mono ?_
  rintro e w' ⟨rfl, k1, k2, rfl⟩
  go_wp2_with fail
  refine (zzsettle_0_0 _ v o0 o1 o2 (by omega) _ (Four.fresh9 _ _ (by simp) _ _ _ _ _)).mono ?_
  rintro e w' ⟨rfl, hF, hO⟩
  have d0 : w'.cell? ⟨w.heap.size + 1, 0, none⟩ = some (.int .u32 v) := (hO.cell _ _ (by omega)).trans (by go_simp)
  have d1 : w'.cell? ⟨w.heap.size + 1, 1, none⟩ = some (.int .u32 o0) := (hO.cell _ _ (by omega)).trans (by go_simp)
  have d2 : w'.cell? ⟨w.heap.size + 1, 2, none⟩ = some (.int .u32 o1) := (hO.cell _ _ (by omega)).trans (by go_simp)
  have d3 : w'.cell? ⟨w.heap.size + 1, 3, none⟩ = some (.int .u32 o2) := (hO.cell _ _ (by omega)).trans (by go_simp)
  have hG := hO.grown (W := w) (by repeat (first | exact Grown.refl _ | apply Grown.drew | apply Grown.alloc)) (by omega)
  obtain ⟨c0, c1, c2, c3, fz⟩ := hF
  have hz := hO.size
  simp at hz
  clear hO fz e0 e1 e2 e3
  go_wp2_with fail
  refine (pack_any _ _ _ _ nv n0 n1 n2 _).mono ?_
  rintro e w2 ⟨rfl, k3, rfl⟩
  go_wp2_with fail
  refine (zzasc_any _ _ _ _ nv n0 n1 n2 _).mono ?_
  rintro e w2 ⟨rfl, q, rfl⟩
  go_wp2_with fail
  refine (pack_any _ _ _ _ nv n0 n1 n2 _).mono ?_
  rintro e w2 ⟨rfl, k4, rfl⟩
  go_wp2_with fail
  refine (zzasc_any _ _ _ _ nv n0 n1 n2 _).mono ?_
  rintro e w2 ⟨rfl, q2, rfl⟩
  go_wp2_with fail
  go_ret
  exact ⟨rfl, by repeat (first | exact hG | apply Grown.drew | apply Grown.alloc)⟩
set_option maxHeartbeats 1600000 in
theorem f9_0_1 (x0 x1 x2 x3 v o0 o1 o2 : Int) (e0 : bits .and .u32 x0 15 = v) (e1 : bits .and .u32 x1 15 = o0) (e2 : bits .and .u32 x2 15 = o1) (e3 : bits .and .u32 x3 15 = o2)
    (nv : Nib v) (n0 : Nib o0) (n1 : Nib o1) (n2 : Nib o2) (hs : srt3 o0 o1 o2 = true) (t0 : o0 < v) (t1 : ¬ o1 < v) (t2 : ¬ o2 < v) (w : World) :
    Calls Trym.prog 9 #[.agg #[.int .u32 x0, .int .u32 x1, .int .u32 x2, .int .u32 x3], .int .i64 0] w fun e w' => e = .returned (.bool true) ∧ Grown w w' := by
  have hd : o0 ≤ o1 ∧ o1 ≤ o2 := of_decide_eq_true hs
  have A1 : ascB o0 v o1 o2 = true := decide_eq_true (by omega)
  have A2 : ascB v o0 o1 o2 = false := decide_eq_false (by omega)
  have A3 : beq4 o0 v o1 o2 v o0 o1 o2 = false := by
    have : ¬ v = o0 := by omega
    simp [beq4, this]
  have QE := run_eq4
  clear hd
  go_enter Trym.func9, Trym.ntmps9
  go_wp2
  refine wp_loop_rounds 5 ?_
  iterate 5 (rw [rounds_succ]; go_wp2_with fail)
  refine (os_0 v o0 o1 o2 _).mono ?_
  rintro e w' ⟨rfl, k1, k2, rfl⟩
  go_wp2_with fail
  refine (zzsettle_0_1 _ v o0 o1 o2 (by omega) (by omega) _ (Four.fresh9 _ _ (by simp) _ _ _ _ _)).mono ?_
  rintro e w' ⟨rfl, hF, hO⟩
  have d0 : w'.cell? ⟨w.heap.size + 1, 0, none⟩ = some (.int .u32 v) := (hO.cell _ _ (by omega)).trans (by go_simp)
  have d1 : w'.cell? ⟨w.heap.size + 1, 1, none⟩ = some (.int .u32 o0) := (hO.cell _ _ (by omega)).trans (by go_simp)
  have d2 : w'.cell? ⟨w.heap.size + 1, 2, none⟩ = some (.int .u32 o1) := (hO.cell _ _ (by omega)).trans (by go_simp)
  have d3 : w'.cell? ⟨w.heap.size + 1, 3, none⟩ = some (.int .u32 o2) := (hO.cell _ _ (by omega)).trans (by go_simp)
  have hG := hO.grown (W := w) (by repeat (first | exact Grown.refl _ | apply Grown.drew | apply Grown.alloc)) (by omega)
  obtain ⟨c0, c1, c2, c3, fz⟩ := hF
  have hz := hO.size
  simp at hz
  clear hO fz e0 e1 e2 e3
  go_wp2_with fail
  refine (pack_any _ _ _ _ n0 nv n1 n2 _).mono ?_
  rintro e w2 ⟨rfl, k3, rfl⟩
  go_wp2_with fail
  refine (zzasc_any _ _ _ _ n0 nv n1 n2 _).mono ?_
  rintro e w2 ⟨rfl, q, rfl⟩
  go_wp2_with fail
  refine (pack_any _ _ _ _ nv n0 n1 n2 _).mono ?_
  rintro e w2 ⟨rfl, k4, rfl⟩
  go_wp2_with fail
  refine (zzasc_any _ _ _ _ nv n0 n1 n2 _).mono ?_
  rintro e w2 ⟨rfl, q2, rfl⟩
  go_wp2_with fail
  go_ret
  exact ⟨rfl, by repeat (first | exact hG | apply Grown.drew | apply Grown.alloc)⟩
set_option maxHeartbeats 1600000 in
theorem f9_0_2 (x0 x1 x2 x3 v o0 o1 o2 : Int) (e0 : bits .and .u32 x0 15 = v) (e1 : bits .and .u32 x1 15 = o0) (e2 : bits .and .u32 x2 15 = o1) (e3 : bits .and .u32 x3 15 = o2)
    (nv : Nib v) (n0 : Nib o0) (n1 : Nib o1) (n2 : Nib o2) (hs : srt3 o0 o1 o2 = true) (t0 : o0 < v) (t1 : o1 < v) (t2 : ¬ o2 < v) (w : World) :
    Calls Trym.prog 9 #[.agg #[.int .u32 x0, .int .u32 x1, .int .u32 x2, .int .u32 x3], .int .i64 0] w fun e w' => e = .returned (.bool true) ∧ Grown w w' := by
  have hd : o0 ≤ o1 ∧ o1 ≤ o2 := of_decide_eq_true hs
  have A1 : ascB o0 o1 v o2 = true := decide_eq_true (by omega)
  have A2 : ascB v o0 o1 o2 = false := decide_eq_false (by omega)
  have A3 : beq4 o0 o1 v o2 v o0 o1 o2 = false := by
    have : ¬ v = o1 := by omega
    simp [beq4, this]
  have QE := run_eq4
  clear hd
  go_enter Trym.func9, Trym.ntmps9
  go_wp2
  refine wp_loop_rounds 5 ?_
  iterate 5 (rw [rounds_succ]; go_wp2_with fail)
  refine (os_0 v o0 o1 o2 _).mono ?_
  rintro e w' ⟨rfl, k1, k2, rfl⟩
  go_wp2_with fail
  refine (zzsettle_0_2 _ v o0 o1 o2 (by omega) (by omega) (by omega) _ (Four.fresh9 _ _ (by simp) _ _ _ _ _)).mono ?_
  rintro e w' ⟨rfl, hF, hO⟩
  have d0 : w'.cell? ⟨w.heap.size + 1, 0, none⟩ = some (.int .u32 v) := (hO.cell _ _ (by omega)).trans (by go_simp)
  have d1 : w'.cell? ⟨w.heap.size + 1, 1, none⟩ = some (.int .u32 o0) := (hO.cell _ _ (by omega)).trans (by go_simp)
  have d2 : w'.cell? ⟨w.heap.size + 1, 2, none⟩ = some (.int .u32 o1) := (hO.cell _ _ (by omega)).trans (by go_simp)
  have d3 : w'.cell? ⟨w.heap.size + 1, 3, none⟩ = some (.int .u32 o2) := (hO.cell _ _ (by omega)).trans (by go_simp)
  have hG := hO.grown (W := w) (by repeat (first | exact Grown.refl _ | apply Grown.drew | apply Grown.alloc)) (by omega)
  obtain ⟨c0, c1, c2, c3, fz⟩ := hF
  have hz := hO.size
  simp at hz
  clear hO fz e0 e1 e2 e3
  go_wp2_with fail
  refine (pack_any _ _ _ _ n0 n1 nv n2 _).mono ?_
  rintro e w2 ⟨rfl, k3, rfl⟩
  go_wp2_with fail
  refine (zzasc_any _ _ _ _ n0 n1 nv n2 _).mono ?_
  rintro e w2 ⟨rfl, q, rfl⟩
  go_wp2_with fail
  refine (pack_any _ _ _ _ nv n0 n1 n2 _).mono ?_
  rintro e w2 ⟨rfl, k4, rfl⟩
  go_wp2_with fail
  refine (zzasc_any _ _ _ _ nv n0 n1 n2 _).mono ?_
  rintro e w2 ⟨rfl, q2, rfl⟩
  go_wp2_with fail
  go_ret
  exact ⟨rfl, by repeat (first | exact hG | apply Grown.drew | apply Grown.alloc)⟩
set_option maxHeartbeats 1600000 in
theorem f9_0_3 (x0 x1 x2 x3 v o0 o1 o2 : Int) (e0 : bits .and .u32 x0 15 = v) (e1 : bits .and .u32 x1 15 = o0) (e2 : bits .and .u32 x2 15 = o1) (e3 : bits .and .u32 x3 15 = o2)
    (nv : Nib v) (n0 : Nib o0) (n1 : Nib o1) (n2 : Nib o2) (hs : srt3 o0 o1 o2 = true) (t0 : o0 < v) (t1 : o1 < v) (t2 : o2 < v) (w : World) :
    Calls Trym.prog 9 #[.agg #[.int .u32 x0, .int .u32 x1, .int .u32 x2, .int .u32 x3], .int .i64 0] w fun e w' => e = .returned (.bool true) ∧ Grown w w' := by
  have hd : o0 ≤ o1 ∧ o1 ≤ o2 := of_decide_eq_true hs
  have A1 : ascB o0 o1 o2 v = true := decide_eq_true (by omega)
  have A2 : ascB v o0 o1 o2 = false := decide_eq_false (by omega)
  have A3 : beq4 o0 o1 o2 v v o0 o1 o2 = false := by
    have : ¬ v = o2 := by omega
    simp [beq4, this]
  have QE := run_eq4
  clear hd
  go_enter Trym.func9, Trym.ntmps9
  go_wp2
  refine wp_loop_rounds 5 ?_
  iterate 5 (rw [rounds_succ]; go_wp2_with fail)
  refine (os_0 v o0 o1 o2 _).mono ?_
  rintro e w' ⟨rfl, k1, k2, rfl⟩
  go_wp2_with fail
  refine (zzsettle_0_3 _ v o0 o1 o2 (by omega) (by omega) (by omega) _ (Four.fresh9 _ _ (by simp) _ _ _ _ _)).mono ?_
  rintro e w' ⟨rfl, hF, hO⟩
  have d0 : w'.cell? ⟨w.heap.size + 1, 0, none⟩ = some (.int .u32 v) := (hO.cell _ _ (by omega)).trans (by go_simp)
  have d1 : w'.cell? ⟨w.heap.size + 1, 1, none⟩ = some (.int .u32 o0) := (hO.cell _ _ (by omega)).trans (by go_simp)
  have d2 : w'.cell? ⟨w.heap.size + 1, 2, none⟩ = some (.int .u32 o1) := (hO.cell _ _ (by omega)).trans (by go_simp)
  have d3 : w'.cell? ⟨w.heap.size + 1, 3, none⟩ = some (.int .u32 o2) := (hO.cell _ _ (by omega)).trans (by go_simp)
  have hG := hO.grown (W := w) (by repeat (first | exact Grown.refl _ | apply Grown.drew | apply Grown.alloc)) (by omega)
  obtain ⟨c0, c1, c2, c3, fz⟩ := hF
  have hz := hO.size
  simp at hz
  clear hO fz e0 e1 e2 e3
  go_wp2_with fail
  refine (pack_any _ _ _ _ n0 n1 n2 nv _).mono ?_
  rintro e w2 ⟨rfl, k3, rfl⟩
  go_wp2_with fail
  refine (zzasc_any _ _ _ _ n0 n1 n2 nv _).mono ?_
  rintro e w2 ⟨rfl, q, rfl⟩
  go_wp2_with fail
  refine (pack_any _ _ _ _ nv n0 n1 n2 _).mono ?_
  rintro e w2 ⟨rfl, k4, rfl⟩
  go_wp2_with fail
  refine (zzasc_any _ _ _ _ nv n0 n1 n2 _).mono ?_
  rintro e w2 ⟨rfl, q2, rfl⟩
  go_wp2_with fail
  go_ret
  exact ⟨rfl, by repeat (first | exact hG | apply Grown.drew | apply Grown.alloc)⟩
set_option maxHeartbeats 1600000 in
theorem f9_1_0 (x0 x1 x2 x3 v o0 o1 o2 : Int) (e0 : bits .and .u32 x0 15 = o0) (e1 : bits .and .u32 x1 15 = v) (e2 : bits .and .u32 x2 15 = o1) (e3 : bits .and .u32 x3 15 = o2)
    (nv : Nib v) (n0 : Nib o0) (n1 : Nib o1) (n2 : Nib o2) (hs : srt3 o0 o1 o2 = true) (t0 : ¬ o0 ≤ v) (t1 : ¬ o1 < v) (t2 : ¬ o2 < v) (w : World) :
    Calls Trym.prog 9 #[.agg #[.int .u32 x0, .int .u32 x1, .int .u32 x2, .int .u32 x3], .int .i64 1] w fun e w' => e = .returned (.bool true) ∧ Grown w w' := by
  have hd : o0 ≤ o1 ∧ o1 ≤ o2 := of_decide_eq_true hs
  have A1 : ascB v o0 o1 o2 = true := decide_eq_true (by omega)
  have A2 : ascB o0 v o1 o2 = false := decide_eq_false (by omega)
  have A3 : beq4 v o0 o1 o2 o0 v o1 o2 = false := by
    have : ¬ v = o0 := by omega
    simp [beq4, this]
  have QE := run_eq4
  clear hd
  go_enter Trym.func9, Trym.ntmps9
  go_wp2
  refine wp_loop_rounds 5 ?_
  iterate 5 (rw [rounds_succ]; go_wp2_with fail)
  refine (os_1 v o0 o1 o2 _).mono ?_
  rintro e w' ⟨rfl, k1, k2, rfl⟩
  go_wp2_with fail
  refine (zzsettle_1_0 _ v o0 o1 o2 (by omega) _ (Four.fresh9 _ _ (by simp) _ _ _ _ _)).mono ?_
  rintro e w' ⟨rfl, hF, hO⟩
  have d0 : w'.cell? ⟨w.heap.size + 1, 0, none⟩ = some (.int .u32 o0) := (hO.cell _ _ (by omega)).trans (by go_simp)
  have d1 : w'.cell? ⟨w.heap.size + 1, 1, none⟩ = some (.int .u32 v) := (hO.cell _ _ (by omega)).trans (by go_simp)
  have d2 : w'.cell? ⟨w.heap.size + 1, 2, none⟩ = some (.int .u32 o1) := (hO.cell _ _ (by omega)).trans (by go_simp)
  have d3 : w'.cell? ⟨w.heap.size + 1, 3, none⟩ = some (.int .u32 o2) := (hO.cell _ _ (by omega)).trans (by go_simp)
  have hG := hO.grown (W := w) (by repeat (first | exact Grown.refl _ | apply Grown.drew | apply Grown.alloc)) (by omega)
  obtain ⟨c0, c1, c2, c3, fz⟩ := hF
  have hz := hO.size
  simp at hz
  clear hO fz e0 e1 e2 e3
  go_wp2_with fail
  refine (pack_any _ _ _ _ nv n0 n1 n2 _).mono ?_
  rintro e w2 ⟨rfl, k3, rfl⟩
  go_wp2_with fail
  refine (zzasc_any _ _ _ _ nv n0 n1 n2 _).mono ?_
  rintro e w2 ⟨rfl, q, rfl⟩
  go_wp2_with fail
  refine (pack_any _ _ _ _ n0 nv n1 n2 _).mono ?_
  rintro e w2 ⟨rfl, k4, rfl⟩
  go_wp2_with fail
  refine (zzasc_any _ _ _ _ n0 nv n1 n2 _).mono ?_
  rintro e w2 ⟨rfl, q2, rfl⟩
  go_wp2_with fail
  go_ret
  exact ⟨rfl, by repeat (first | exact hG | apply Grown.drew | apply Grown.alloc)⟩
set_option maxHeartbeats 1600000 in
theorem f9_1_1 (x0 x1 x2 x3 v o0 o1 o2 : Int) (e0 : bits .and .u32 x0 15 = o0) (e1 : bits .and .u32 x1 15 = v) (e2 : bits .and .u32 x2 15 = o1) (e3 : bits .and .u32 x3 15 = o2)
    (nv : Nib v) (n0 : Nib o0) (n1 : Nib o1) (n2 : Nib o2) (hs : srt3 o0 o1 o2 = true) (t0 : o0 ≤ v) (t1 : ¬ o1 < v) (t2 : ¬ o2 < v) (w : World) :
    Calls Trym.prog 9 #[.agg #[.int .u32 x0, .int .u32 x1, .int .u32 x2, .int .u32 x3], .int .i64 1] w fun e w' => e = .returned (.bool true) ∧ Grown w w' := by
  have hd : o0 ≤ o1 ∧ o1 ≤ o2 := of_decide_eq_true hs
  have A1 : ascB o0 v o1 o2 = true := decide_eq_true (by omega)
  have A3 : beq4 o0 v o1 o2 o0 v o1 o2 = true := beq4_same _ _ _ _
  have QE := run_eq4
  clear hd
  go_enter Trym.func9, Trym.ntmps9
  go_wp2
  refine wp_loop_rounds 5 ?_
  iterate 5 (rw [rounds_succ]; go_wp2_with fail)
  refine (os_1 v o0 o1 o2 _).mono ?_
  rintro e w' ⟨rfl, k1, k2, rfl⟩
  go_wp2_with fail
  refine (zzsettle_1_1 _ v o0 o1 o2 (by omega) (by omega) _ (Four.fresh9 _ _ (by simp) _ _ _ _ _)).mono ?_
  rintro e w' ⟨rfl, hF, hO⟩
  have d0 : w'.cell? ⟨w.heap.size + 1, 0, none⟩ = some (.int .u32 o0) := (hO.cell _ _ (by omega)).trans (by go_simp)
  have d1 : w'.cell? ⟨w.heap.size + 1, 1, none⟩ = some (.int .u32 v) := (hO.cell _ _ (by omega)).trans (by go_simp)
  have d2 : w'.cell? ⟨w.heap.size + 1, 2, none⟩ = some (.int .u32 o1) := (hO.cell _ _ (by omega)).trans (by go_simp)
  have d3 : w'.cell? ⟨w.heap.size + 1, 3, none⟩ = some (.int .u32 o2) := (hO.cell _ _ (by omega)).trans (by go_simp)
  have hG := hO.grown (W := w) (by repeat (first | exact Grown.refl _ | apply Grown.drew | apply Grown.alloc)) (by omega)
  obtain ⟨c0, c1, c2, c3, fz⟩ := hF
  have hz := hO.size
  simp at hz
  clear hO fz e0 e1 e2 e3
  go_wp2_with fail
  refine (pack_any _ _ _ _ n0 nv n1 n2 _).mono ?_
  rintro e w2 ⟨rfl, k3, rfl⟩
  go_wp2_with fail
  refine (zzasc_any _ _ _ _ n0 nv n1 n2 _).mono ?_
  rintro e w2 ⟨rfl, q, rfl⟩
  go_wp2_with fail
  refine (pack_any _ _ _ _ n0 nv n1 n2 _).mono ?_
  rintro e w2 ⟨rfl, k4, rfl⟩
  go_wp2_with fail
  refine (zzasc_any _ _ _ _ n0 nv n1 n2 _).mono ?_
  rintro e w2 ⟨rfl, q2, rfl⟩
  go_wp2_with fail
  go_ret
  exact ⟨rfl, by repeat (first | exact hG | apply Grown.drew | apply Grown.alloc)⟩
set_option maxHeartbeats 1600000 in
theorem f9_1_2 (x0 x1 x2 x3 v o0 o1 o2 : Int) (e0 : bits .and .u32 x0 15 = o0) (e1 : bits .and .u32 x1 15 = v) (e2 : bits .and .u32 x2 15 = o1) (e3 : bits .and .u32 x3 15 = o2)
    (nv : Nib v) (n0 : Nib o0) (n1 : Nib o1) (n2 : Nib o2) (hs : srt3 o0 o1 o2 = true) (t0 : o0 ≤ v) (t1 : o1 < v) (t2 : ¬ o2 < v) (w : World) :
    Calls Trym.prog 9 #[.agg #[.int .u32 x0, .int .u32 x1, .int .u32 x2, .int .u32 x3], .int .i64 1] w fun e w' => e = .returned (.bool true) ∧ Grown w w' := by
  have hd : o0 ≤ o1 ∧ o1 ≤ o2 := of_decide_eq_true hs
  have A1 : ascB o0 o1 v o2 = true := decide_eq_true (by omega)
  have A2 : ascB o0 v o1 o2 = false := decide_eq_false (by omega)
  have A3 : beq4 o0 o1 v o2 o0 v o1 o2 = false := by
    have : ¬ v = o1 := by omega
    simp [beq4, this]
  have QE := run_eq4
  clear hd
  go_enter Trym.func9, Trym.ntmps9
  go_wp2
  refine wp_loop_rounds 5 ?_
  iterate 5 (rw [rounds_succ]; go_wp2_with fail)
  refine (os_1 v o0 o1 o2 _).mono ?_
  rintro e w' ⟨rfl, k1, k2, rfl⟩
  go_wp2_with fail
  refine (zzsettle_1_2 _ v o0 o1 o2 (by omega) (by omega) (by omega) _ (Four.fresh9 _ _ (by simp) _ _ _ _ _)).mono ?_
  rintro e w' ⟨rfl, hF, hO⟩
  have d0 : w'.cell? ⟨w.heap.size + 1, 0, none⟩ = some (.int .u32 o0) := (hO.cell _ _ (by omega)).trans (by go_simp)
  have d1 : w'.cell? ⟨w.heap.size + 1, 1, none⟩ = some (.int .u32 v) := (hO.cell _ _ (by omega)).trans (by go_simp)
  have d2 : w'.cell? ⟨w.heap.size + 1, 2, none⟩ = some (.int .u32 o1) := (hO.cell _ _ (by omega)).trans (by go_simp)
  have d3 : w'.cell? ⟨w.heap.size + 1, 3, none⟩ = some (.int .u32 o2) := (hO.cell _ _ (by omega)).trans (by go_simp)
  have hG := hO.grown (W := w) (by repeat (first | exact Grown.refl _ | apply Grown.drew | apply Grown.alloc)) (by omega)
  obtain ⟨c0, c1, c2, c3, fz⟩ := hF
  have hz := hO.size
  simp at hz
  clear hO fz e0 e1 e2 e3
  go_wp2_with fail
  refine (pack_any _ _ _ _ n0 n1 nv n2 _).mono ?_
  rintro e w2 ⟨rfl, k3, rfl⟩
  go_wp2_with fail
  refine (zzasc_any _ _ _ _ n0 n1 nv n2 _).mono ?_
  rintro e w2 ⟨rfl, q, rfl⟩
  go_wp2_with fail
  refine (pack_any _ _ _ _ n0 nv n1 n2 _).mono ?_
  rintro e w2 ⟨rfl, k4, rfl⟩
  go_wp2_with fail
  refine (zzasc_any _ _ _ _ n0 nv n1 n2 _).mono ?_
  rintro e w2 ⟨rfl, q2, rfl⟩
  go_wp2_with fail
  go_ret
  exact ⟨rfl, by repeat (first | exact hG | apply Grown.drew | apply Grown.alloc)⟩
set_option maxHeartbeats 1600000 in
theorem f9_1_3 (x0 x1 x2 x3 v o0 o1 o2 : Int) (e0 : bits .and .u32 x0 15 = o0) (e1 : bits .and .u32 x1 15 = v) (e2 : bits .and .u32 x2 15 = o1) (e3 : bits .and .u32 x3 15 = o2)
    (nv : Nib v) (n0 : Nib o0) (n1 : Nib o1) (n2 : Nib o2) (hs : srt3 o0 o1 o2 = true) (t0 : o0 ≤ v) (t1 : o1 < v) (t2 : o2 < v) (w : World) :
    Calls Trym.prog 9 #[.agg #[.int .u32 x0, .int .u32 x1, .int .u32 x2, .int .u32 x3], .int .i64 1] w fun e w' => e = .returned (.bool true) ∧ Grown w w' := by
  have hd : o0 ≤ o1 ∧ o1 ≤ o2 := of_decide_eq_true hs
  have A1 : ascB o0 o1 o2 v = true := decide_eq_true (by omega)
  have A2 : ascB o0 v o1 o2 = false := decide_eq_false (by omega)
  have A3 : beq4 o0 o1 o2 v o0 v o1 o2 = false := by
    have : ¬ v = o2 := by omega
    simp [beq4, this]
  have QE := run_eq4
  clear hd
  go_enter Trym.func9, Trym.ntmps9
  go_wp2
  refine wp_loop_rounds 5 ?_
  iterate 5 (rw [rounds_succ]; go_wp2_with fail)
  refine (os_1 v o0 o1 o2 _).mono ?_
  rintro e w' ⟨rfl, k1, k2, rfl⟩
  go_wp2_with fail
  refine (zzsettle_1_3 _ v o0 o1 o2 (by omega) (by omega) (by omega) _ (Four.fresh9 _ _ (by simp) _ _ _ _ _)).mono ?_
  rintro e w' ⟨rfl, hF, hO⟩
  have d0 : w'.cell? ⟨w.heap.size + 1, 0, none⟩ = some (.int .u32 o0) := (hO.cell _ _ (by omega)).trans (by go_simp)
  have d1 : w'.cell? ⟨w.heap.size + 1, 1, none⟩ = some (.int .u32 v) := (hO.cell _ _ (by omega)).trans (by go_simp)
  have d2 : w'.cell? ⟨w.heap.size + 1, 2, none⟩ = some (.int .u32 o1) := (hO.cell _ _ (by omega)).trans (by go_simp)
  have d3 : w'.cell? ⟨w.heap.size + 1, 3, none⟩ = some (.int .u32 o2) := (hO.cell _ _ (by omega)).trans (by go_simp)
  have hG := hO.grown (W := w) (by repeat (first | exact Grown.refl _ | apply Grown.drew | apply Grown.alloc)) (by omega)
  obtain ⟨c0, c1, c2, c3, fz⟩ := hF
  have hz := hO.size
  simp at hz
  clear hO fz e0 e1 e2 e3
  go_wp2_with fail
  refine (pack_any _ _ _ _ n0 n1 n2 nv _).mono ?_
  rintro e w2 ⟨rfl, k3, rfl⟩
  go_wp2_with fail
  refine (zzasc_any _ _ _ _ n0 n1 n2 nv _).mono ?_
  rintro e w2 ⟨rfl, q, rfl⟩
  go_wp2_with fail
  refine (pack_any _ _ _ _ n0 nv n1 n2 _).mono ?_
  rintro e w2 ⟨rfl, k4, rfl⟩
  go_wp2_with fail
  refine (zzasc_any _ _ _ _ n0 nv n1 n2 _).mono ?_
  rintro e w2 ⟨rfl, q2, rfl⟩
  go_wp2_with fail
  go_ret
  exact ⟨rfl, by repeat (first | exact hG | apply Grown.drew | apply Grown.alloc)⟩
set_option maxHeartbeats 1600000 in
theorem f9_2_0 (x0 x1 x2 x3 v o0 o1 o2 : Int) (e0 : bits .and .u32 x0 15 = o0) (e1 : bits .and .u32 x1 15 = o1) (e2 : bits .and .u32 x2 15 = v) (e3 : bits .and .u32 x3 15 = o2)
    (nv : Nib v) (n0 : Nib o0) (n1 : Nib o1) (n2 : Nib o2) (hs : srt3 o0 o1 o2 = true) (t0 : ¬ o0 ≤ v) (t1 : ¬ o1 ≤ v) (t2 : ¬ o2 < v) (w : World) :
    Calls Trym.prog 9 #[.agg #[.int .u32 x0, .int .u32 x1, .int .u32 x2, .int .u32 x3], .int .i64 2] w fun e w' => e = .returned (.bool true) ∧ Grown w w' := by
  have hd : o0 ≤ o1 ∧ o1 ≤ o2 := of_decide_eq_true hs
  have A1 : ascB v o0 o1 o2 = true := decide_eq_true (by omega)
  have A2 : ascB o0 o1 v o2 = false := decide_eq_false (by omega)
  have A3 : beq4 v o0 o1 o2 o0 o1 v o2 = false := by
    have : ¬ v = o0 := by omega
    simp [beq4, this]
  have QE := run_eq4
  clear hd
  go_enter Trym.func9, Trym.ntmps9
  go_wp2
  refine wp_loop_rounds 5 ?_
  iterate 5 (rw [rounds_succ]; go_wp2_with fail)
  refine (os_2 v o0 o1 o2 _).mono ?_
  rintro e w' ⟨rfl, k1, k2, rfl⟩
  go_wp2_with fail
  refine (zzsettle_2_0 _ v o0 o1 o2 (by omega) (by omega) _ (Four.fresh9 _ _ (by simp) _ _ _ _ _)).mono ?_
  rintro e w' ⟨rfl, hF, hO⟩
  have d0 : w'.cell? ⟨w.heap.size + 1, 0, none⟩ = some (.int .u32 o0) := (hO.cell _ _ (by omega)).trans (by go_simp)
  have d1 : w'.cell? ⟨w.heap.size + 1, 1, none⟩ = some (.int .u32 o1) := (hO.cell _ _ (by omega)).trans (by go_simp)
  have d2 : w'.cell? ⟨w.heap.size + 1, 2, none⟩ = some (.int .u32 v) := (hO.cell _ _ (by omega)).trans (by go_simp)
  have d3 : w'.cell? ⟨w.heap.size + 1, 3, none⟩ = some (.int .u32 o2) := (hO.cell _ _ (by omega)).trans (by go_simp)
  have hG := hO.grown (W := w) (by repeat (first | exact Grown.refl _ | apply Grown.drew | apply Grown.alloc)) (by omega)
  obtain ⟨c0, c1, c2, c3, fz⟩ := hF
  have hz := hO.size
  simp at hz
  clear hO fz e0 e1 e2 e3
  go_wp2_with fail
  refine (pack_any _ _ _ _ nv n0 n1 n2 _).mono ?_
  rintro e w2 ⟨rfl, k3, rfl⟩
  go_wp2_with fail
  refine (zzasc_any _ _ _ _ nv n0 n1 n2 _).mono ?_
  rintro e w2 ⟨rfl, q, rfl⟩
  go_wp2_with fail
  refine (pack_any _ _ _ _ n0 n1 nv n2 _).mono ?_
  rintro e w2 ⟨rfl, k4, rfl⟩
  go_wp2_with fail
  refine (zzasc_any _ _ _ _ n0 n1 nv n2 _).mono ?_
  rintro e w2 ⟨rfl, q2, rfl⟩
  go_wp2_with fail
  go_ret
  exact ⟨rfl, by repeat (first | exact hG | apply Grown.drew | apply Grown.alloc)⟩
set_option maxHeartbeats 1600000 in
theorem f9_2_1 (x0 x1 x2 x3 v o0 o1 o2 : Int) (e0 : bits .and .u32 x0 15 = o0) (e1 : bits .and .u32 x1 15 = o1) (e2 : bits .and .u32 x2 15 = v) (e3 : bits .and .u32 x3 15 = o2)
    (nv : Nib v) (n0 : Nib o0) (n1 : Nib o1) (n2 : Nib o2) (hs : srt3 o0 o1 o2 = true) (t0 : o0 ≤ v) (t1 : ¬ o1 ≤ v) (t2 : ¬ o2 < v) (w : World) :
    Calls Trym.prog 9 #[.agg #[.int .u32 x0, .int .u32 x1, .int .u32 x2, .int .u32 x3], .int .i64 2] w fun e w' => e = .returned (.bool true) ∧ Grown w w' := by
  have hd : o0 ≤ o1 ∧ o1 ≤ o2 := of_decide_eq_true hs
  have A1 : ascB o0 v o1 o2 = true := decide_eq_true (by omega)
  have A2 : ascB o0 o1 v o2 = false := decide_eq_false (by omega)
  have A3 : beq4 o0 v o1 o2 o0 o1 v o2 = false := by
    have : ¬ v = o1 := by omega
    simp [beq4, this]
  have QE := run_eq4
  clear hd
  go_enter Trym.func9, Trym.ntmps9
  go_wp2
  refine wp_loop_rounds 5 ?_
  iterate 5 (rw [rounds_succ]; go_wp2_with fail)
  refine (os_2 v o0 o1 o2 _).mono ?_
  rintro e w' ⟨rfl, k1, k2, rfl⟩
  go_wp2_with fail
  refine (zzsettle_2_1 _ v o0 o1 o2 (by omega) (by omega) _ (Four.fresh9 _ _ (by simp) _ _ _ _ _)).mono ?_
  rintro e w' ⟨rfl, hF, hO⟩
  have d0 : w'.cell? ⟨w.heap.size + 1, 0, none⟩ = some (.int .u32 o0) := (hO.cell _ _ (by omega)).trans (by go_simp)
  have d1 : w'.cell? ⟨w.heap.size + 1, 1, none⟩ = some (.int .u32 o1) := (hO.cell _ _ (by omega)).trans (by go_simp)
  have d2 : w'.cell? ⟨w.heap.size + 1, 2, none⟩ = some (.int .u32 v) := (hO.cell _ _ (by omega)).trans (by go_simp)
  have d3 : w'.cell? ⟨w.heap.size + 1, 3, none⟩ = some (.int .u32 o2) := (hO.cell _ _ (by omega)).trans (by go_simp)
  have hG := hO.grown (W := w) (by repeat (first | exact Grown.refl _ | apply Grown.drew | apply Grown.alloc)) (by omega)
  obtain ⟨c0, c1, c2, c3, fz⟩ := hF
  have hz := hO.size
  simp at hz
  clear hO fz e0 e1 e2 e3
  go_wp2_with fail
  refine (pack_any _ _ _ _ n0 nv n1 n2 _).mono ?_
  rintro e w2 ⟨rfl, k3, rfl⟩
  go_wp2_with fail
  refine (zzasc_any _ _ _ _ n0 nv n1 n2 _).mono ?_
  rintro e w2 ⟨rfl, q, rfl⟩
  go_wp2_with fail
  refine (pack_any _ _ _ _ n0 n1 nv n2 _).mono ?_
  rintro e w2 ⟨rfl, k4, rfl⟩
  go_wp2_with fail
  refine (zzasc_any _ _ _ _ n0 n1 nv n2 _).mono ?_
  rintro e w2 ⟨rfl, q2, rfl⟩
  go_wp2_with fail
  go_ret
  exact ⟨rfl, by repeat (first | exact hG | apply Grown.drew | apply Grown.alloc)⟩
set_option maxHeartbeats 1600000 in
theorem f9_2_2 (x0 x1 x2 x3 v o0 o1 o2 : Int) (e0 : bits .and .u32 x0 15 = o0) (e1 : bits .and .u32 x1 15 = o1) (e2 : bits .and .u32 x2 15 = v) (e3 : bits .and .u32 x3 15 = o2)
    (nv : Nib v) (n0 : Nib o0) (n1 : Nib o1) (n2 : Nib o2) (hs : srt3 o0 o1 o2 = true) (t0 : o0 ≤ v) (t1 : o1 ≤ v) (t2 : ¬ o2 < v) (w : World) :
    Calls Trym.prog 9 #[.agg #[.int .u32 x0, .int .u32 x1, .int .u32 x2, .int .u32 x3], .int .i64 2] w fun e w' => e = .returned (.bool true) ∧ Grown w w' := by
  have hd : o0 ≤ o1 ∧ o1 ≤ o2 := of_decide_eq_true hs
  have A1 : ascB o0 o1 v o2 = true := decide_eq_true (by omega)
  have A3 : beq4 o0 o1 v o2 o0 o1 v o2 = true := beq4_same _ _ _ _
  have QE := run_eq4
  clear hd
  go_enter Trym.func9, Trym.ntmps9
  go_wp2
  refine wp_loop_rounds 5 ?_
  iterate 5 (rw [rounds_succ]; go_wp2_with fail)
  refine (os_2 v o0 o1 o2 _).mono ?_
  rintro e w' ⟨rfl, k1, k2, rfl⟩
  go_wp2_with fail
  refine (zzsettle_2_2 _ v o0 o1 o2 (by omega) (by omega) _ (Four.fresh9 _ _ (by simp) _ _ _ _ _)).mono ?_
  rintro e w' ⟨rfl, hF, hO⟩
  have d0 : w'.cell? ⟨w.heap.size + 1, 0, none⟩ = some (.int .u32 o0) := (hO.cell _ _ (by omega)).trans (by go_simp)
  have d1 : w'.cell? ⟨w.heap.size + 1, 1, none⟩ = some (.int .u32 o1) := (hO.cell _ _ (by omega)).trans (by go_simp)
  have d2 : w'.cell? ⟨w.heap.size + 1, 2, none⟩ = some (.int .u32 v) := (hO.cell _ _ (by omega)).trans (by go_simp)
  have d3 : w'.cell? ⟨w.heap.size + 1, 3, none⟩ = some (.int .u32 o2) := (hO.cell _ _ (by omega)).trans (by go_simp)
  have hG := hO.grown (W := w) (by repeat (first | exact Grown.refl _ | apply Grown.drew | apply Grown.alloc)) (by omega)
  obtain ⟨c0, c1, c2, c3, fz⟩ := hF
  have hz := hO.size
  simp at hz
  clear hO fz e0 e1 e2 e3
  go_wp2_with fail
  refine (pack_any _ _ _ _ n0 n1 nv n2 _).mono ?_
  rintro e w2 ⟨rfl, k3, rfl⟩
  go_wp2_with fail
  refine (zzasc_any _ _ _ _ n0 n1 nv n2 _).mono ?_
  rintro e w2 ⟨rfl, q, rfl⟩
  go_wp2_with fail
  refine (pack_any _ _ _ _ n0 n1 nv n2 _).mono ?_
  rintro e w2 ⟨rfl, k4, rfl⟩
  go_wp2_with fail
  refine (zzasc_any _ _ _ _ n0 n1 nv n2 _).mono ?_
  rintro e w2 ⟨rfl, q2, rfl⟩
  go_wp2_with fail
  go_ret
  exact ⟨rfl, by repeat (first | exact hG | apply Grown.drew | apply Grown.alloc)⟩
set_option maxHeartbeats 1600000 in
theorem f9_2_3 (x0 x1 x2 x3 v o0 o1 o2 : Int) (e0 : bits .and .u32 x0 15 = o0) (e1 : bits .and .u32 x1 15 = o1) (e2 : bits .and .u32 x2 15 = v) (e3 : bits .and .u32 x3 15 = o2)
    (nv : Nib v) (n0 : Nib o0) (n1 : Nib o1) (n2 : Nib o2) (hs : srt3 o0 o1 o2 = true) (t0 : o0 ≤ v) (t1 : o1 ≤ v) (t2 : o2 < v) (w : World) :
    Calls Trym.prog 9 #[.agg #[.int .u32 x0, .int .u32 x1, .int .u32 x2, .int .u32 x3], .int .i64 2] w fun e w' => e = .returned (.bool true) ∧ Grown w w' := by
  have hd : o0 ≤ o1 ∧ o1 ≤ o2 := of_decide_eq_true hs
  have A1 : ascB o0 o1 o2 v = true := decide_eq_true (by omega)
  have A2 : ascB o0 o1 v o2 = false := decide_eq_false (by omega)
  have A3 : beq4 o0 o1 o2 v o0 o1 v o2 = false := by
    have : ¬ v = o2 := by omega
    simp [beq4, this]
  have QE := run_eq4
  clear hd
  go_enter Trym.func9, Trym.ntmps9
  go_wp2
  refine wp_loop_rounds 5 ?_
  iterate 5 (rw [rounds_succ]; go_wp2_with fail)
  refine (os_2 v o0 o1 o2 _).mono ?_
  rintro e w' ⟨rfl, k1, k2, rfl⟩
  go_wp2_with fail
  refine (zzsettle_2_3 _ v o0 o1 o2 (by omega) (by omega) _ (Four.fresh9 _ _ (by simp) _ _ _ _ _)).mono ?_
  rintro e w' ⟨rfl, hF, hO⟩
  have d0 : w'.cell? ⟨w.heap.size + 1, 0, none⟩ = some (.int .u32 o0) := (hO.cell _ _ (by omega)).trans (by go_simp)
  have d1 : w'.cell? ⟨w.heap.size + 1, 1, none⟩ = some (.int .u32 o1) := (hO.cell _ _ (by omega)).trans (by go_simp)
  have d2 : w'.cell? ⟨w.heap.size + 1, 2, none⟩ = some (.int .u32 v) := (hO.cell _ _ (by omega)).trans (by go_simp)
  have d3 : w'.cell? ⟨w.heap.size + 1, 3, none⟩ = some (.int .u32 o2) := (hO.cell _ _ (by omega)).trans (by go_simp)
  have hG := hO.grown (W := w) (by repeat (first | exact Grown.refl _ | apply Grown.drew | apply Grown.alloc)) (by omega)
  obtain ⟨c0, c1, c2, c3, fz⟩ := hF
  have hz := hO.size
  simp at hz
  clear hO fz e0 e1 e2 e3
  go_wp2_with fail
  refine (pack_any _ _ _ _ n0 n1 n2 nv _).mono ?_
  rintro e w2 ⟨rfl, k3, rfl⟩
  go_wp2_with fail
  refine (zzasc_any _ _ _ _ n0 n1 n2 nv _).mono ?_
  rintro e w2 ⟨rfl, q, rfl⟩
  go_wp2_with fail
  refine (pack_any _ _ _ _ n0 n1 nv n2 _).mono ?_
  rintro e w2 ⟨rfl, k4, rfl⟩
  go_wp2_with fail
  refine (zzasc_any _ _ _ _ n0 n1 nv n2 _).mono ?_
  rintro e w2 ⟨rfl, q2, rfl⟩
  go_wp2_with fail
  go_ret
  exact ⟨rfl, by repeat (first | exact hG | apply Grown.drew | apply Grown.alloc)⟩
set_option maxHeartbeats 1600000 in
theorem f9_3_0 (x0 x1 x2 x3 v o0 o1 o2 : Int) (e0 : bits .and .u32 x0 15 = o0) (e1 : bits .and .u32 x1 15 = o1) (e2 : bits .and .u32 x2 15 = o2) (e3 : bits .and .u32 x3 15 = v)
    (nv : Nib v) (n0 : Nib o0) (n1 : Nib o1) (n2 : Nib o2) (hs : srt3 o0 o1 o2 = true) (t0 : ¬ o0 ≤ v) (t1 : ¬ o1 ≤ v) (t2 : ¬ o2 ≤ v) (w : World) :
    Calls Trym.prog 9 #[.agg #[.int .u32 x0, .int .u32 x1, .int .u32 x2, .int .u32 x3], .int .i64 3] w fun e w' => e = .returned (.bool true) ∧ Grown w w' := by
  have hd : o0 ≤ o1 ∧ o1 ≤ o2 := of_decide_eq_true hs
  have A1 : ascB v o0 o1 o2 = true := decide_eq_true (by omega)
  have A2 : ascB o0 o1 o2 v = false := decide_eq_false (by omega)
  have A3 : beq4 v o0 o1 o2 o0 o1 o2 v = false := by
    have : ¬ v = o0 := by omega
    simp [beq4, this]
  have QE := run_eq4
  clear hd
  go_enter Trym.func9, Trym.ntmps9
  go_wp2
  refine wp_loop_rounds 5 ?_
  iterate 5 (rw [rounds_succ]; go_wp2_with fail)
  refine (os_3 v o0 o1 o2 _).mono ?_
  rintro e w' ⟨rfl, k1, k2, rfl⟩
  go_wp2_with fail
  refine (zzsettle_3_0 _ v o0 o1 o2 (by omega) (by omega) (by omega) _ (Four.fresh9 _ _ (by simp) _ _ _ _ _)).mono ?_
  rintro e w' ⟨rfl, hF, hO⟩
  have d0 : w'.cell? ⟨w.heap.size + 1, 0, none⟩ = some (.int .u32 o0) := (hO.cell _ _ (by omega)).trans (by go_simp)
  have d1 : w'.cell? ⟨w.heap.size + 1, 1, none⟩ = some (.int .u32 o1) := (hO.cell _ _ (by omega)).trans (by go_simp)
  have d2 : w'.cell? ⟨w.heap.size + 1, 2, none⟩ = some (.int .u32 o2) := (hO.cell _ _ (by omega)).trans (by go_simp)
  have d3 : w'.cell? ⟨w.heap.size + 1, 3, none⟩ = some (.int .u32 v) := (hO.cell _ _ (by omega)).trans (by go_simp)
  have hG := hO.grown (W := w) (by repeat (first | exact Grown.refl _ | apply Grown.drew | apply Grown.alloc)) (by omega)
  obtain ⟨c0, c1, c2, c3, fz⟩ := hF
  have hz := hO.size
  simp at hz
  clear hO fz e0 e1 e2 e3
  go_wp2_with fail
  refine (pack_any _ _ _ _ nv n0 n1 n2 _).mono ?_
  rintro e w2 ⟨rfl, k3, rfl⟩
  go_wp2_with fail
  refine (zzasc_any _ _ _ _ nv n0 n1 n2 _).mono ?_
  rintro e w2 ⟨rfl, q, rfl⟩
  go_wp2_with fail
  refine (pack_any _ _ _ _ n0 n1 n2 nv _).mono ?_
  rintro e w2 ⟨rfl, k4, rfl⟩
  go_wp2_with fail
  refine (zzasc_any _ _ _ _ n0 n1 n2 nv _).mono ?_
  rintro e w2 ⟨rfl, q2, rfl⟩
  go_wp2_with fail
  go_ret
  exact ⟨rfl, by repeat (first | exact hG | apply Grown.drew | apply Grown.alloc)⟩
set_option maxHeartbeats 1600000 in
theorem f9_3_1 (x0 x1 x2 x3 v o0 o1 o2 : Int) (e0 : bits .and .u32 x0 15 = o0) (e1 : bits .and .u32 x1 15 = o1) (e2 : bits .and .u32 x2 15 = o2) (e3 : bits .and .u32 x3 15 = v)
    (nv : Nib v) (n0 : Nib o0) (n1 : Nib o1) (n2 : Nib o2) (hs : srt3 o0 o1 o2 = true) (t0 : o0 ≤ v) (t1 : ¬ o1 ≤ v) (t2 : ¬ o2 ≤ v) (w : World) :
    Calls Trym.prog 9 #[.agg #[.int .u32 x0, .int .u32 x1, .int .u32 x2, .int .u32 x3], .int .i64 3] w fun e w' => e = .returned (.bool true) ∧ Grown w w' := by
  have hd : o0 ≤ o1 ∧ o1 ≤ o2 := of_decide_eq_true hs
  have A1 : ascB o0 v o1 o2 = true := decide_eq_true (by omega)
  have A2 : ascB o0 o1 o2 v = false := decide_eq_false (by omega)
  have A3 : beq4 o0 v o1 o2 o0 o1 o2 v = false := by
    have : ¬ v = o1 := by omega
    simp [beq4, this]
  have QE := run_eq4
  clear hd
  go_enter Trym.func9, Trym.ntmps9
  go_wp2
  refine wp_loop_rounds 5 ?_
  iterate 5 (rw [rounds_succ]; go_wp2_with fail)
  refine (os_3 v o0 o1 o2 _).mono ?_
  rintro e w' ⟨rfl, k1, k2, rfl⟩
  go_wp2_with fail
  refine (zzsettle_3_1 _ v o0 o1 o2 (by omega) (by omega) (by omega) _ (Four.fresh9 _ _ (by simp) _ _ _ _ _)).mono ?_
  rintro e w' ⟨rfl, hF, hO⟩
  have d0 : w'.cell? ⟨w.heap.size + 1, 0, none⟩ = some (.int .u32 o0) := (hO.cell _ _ (by omega)).trans (by go_simp)
  have d1 : w'.cell? ⟨w.heap.size + 1, 1, none⟩ = some (.int .u32 o1) := (hO.cell _ _ (by omega)).trans (by go_simp)
  have d2 : w'.cell? ⟨w.heap.size + 1, 2, none⟩ = some (.int .u32 o2) := (hO.cell _ _ (by omega)).trans (by go_simp)
  have d3 : w'.cell? ⟨w.heap.size + 1, 3, none⟩ = some (.int .u32 v) := (hO.cell _ _ (by omega)).trans (by go_simp)
  have hG := hO.grown (W := w) (by repeat (first | exact Grown.refl _ | apply Grown.drew | apply Grown.alloc)) (by omega)
  obtain ⟨c0, c1, c2, c3, fz⟩ := hF
  have hz := hO.size
  simp at hz
  clear hO fz e0 e1 e2 e3
  go_wp2_with fail
  refine (pack_any _ _ _ _ n0 nv n1 n2 _).mono ?_
  rintro e w2 ⟨rfl, k3, rfl⟩
  go_wp2_with fail
  refine (zzasc_any _ _ _ _ n0 nv n1 n2 _).mono ?_
  rintro e w2 ⟨rfl, q, rfl⟩
  go_wp2_with fail
  refine (pack_any _ _ _ _ n0 n1 n2 nv _).mono ?_
  rintro e w2 ⟨rfl, k4, rfl⟩
  go_wp2_with fail
  refine (zzasc_any _ _ _ _ n0 n1 n2 nv _).mono ?_
  rintro e w2 ⟨rfl, q2, rfl⟩
  go_wp2_with fail
  go_ret
  exact ⟨rfl, by repeat (first | exact hG | apply Grown.drew | apply Grown.alloc)⟩
set_option maxHeartbeats 1600000 in
theorem f9_3_2 (x0 x1 x2 x3 v o0 o1 o2 : Int) (e0 : bits .and .u32 x0 15 = o0) (e1 : bits .and .u32 x1 15 = o1) (e2 : bits .and .u32 x2 15 = o2) (e3 : bits .and .u32 x3 15 = v)
    (nv : Nib v) (n0 : Nib o0) (n1 : Nib o1) (n2 : Nib o2) (hs : srt3 o0 o1 o2 = true) (t0 : o0 ≤ v) (t1 : o1 ≤ v) (t2 : ¬ o2 ≤ v) (w : World) :
    Calls Trym.prog 9 #[.agg #[.int .u32 x0, .int .u32 x1, .int .u32 x2, .int .u32 x3], .int .i64 3] w fun e w' => e = .returned (.bool true) ∧ Grown w w' := by
  have hd : o0 ≤ o1 ∧ o1 ≤ o2 := of_decide_eq_true hs
  have A1 : ascB o0 o1 v o2 = true := decide_eq_true (by omega)
  have A2 : ascB o0 o1 o2 v = false := decide_eq_false (by omega)
  have A3 : beq4 o0 o1 v o2 o0 o1 o2 v = false := by
    have : ¬ v = o2 := by omega
    simp [beq4, this]
  have QE := run_eq4
  clear hd
  go_enter Trym.func9, Trym.ntmps9
  go_wp2
  refine wp_loop_rounds 5 ?_
  iterate 5 (rw [rounds_succ]; go_wp2_with fail)
  refine (os_3 v o0 o1 o2 _).mono ?_
  rintro e w' ⟨rfl, k1, k2, rfl⟩
  go_wp2_with fail
  refine (zzsettle_3_2 _ v o0 o1 o2 (by omega) (by omega) _ (Four.fresh9 _ _ (by simp) _ _ _ _ _)).mono ?_
  rintro e w' ⟨rfl, hF, hO⟩
  have d0 : w'.cell? ⟨w.heap.size + 1, 0, none⟩ = some (.int .u32 o0) := (hO.cell _ _ (by omega)).trans (by go_simp)
  have d1 : w'.cell? ⟨w.heap.size + 1, 1, none⟩ = some (.int .u32 o1) := (hO.cell _ _ (by omega)).trans (by go_simp)
  have d2 : w'.cell? ⟨w.heap.size + 1, 2, none⟩ = some (.int .u32 o2) := (hO.cell _ _ (by omega)).trans (by go_simp)
  have d3 : w'.cell? ⟨w.heap.size + 1, 3, none⟩ = some (.int .u32 v) := (hO.cell _ _ (by omega)).trans (by go_simp)
  have hG := hO.grown (W := w) (by repeat (first | exact Grown.refl _ | apply Grown.drew | apply Grown.alloc)) (by omega)
  obtain ⟨c0, c1, c2, c3, fz⟩ := hF
  have hz := hO.size
  simp at hz
  clear hO fz e0 e1 e2 e3
  go_wp2_with fail
  refine (pack_any _ _ _ _ n0 n1 nv n2 _).mono ?_
  rintro e w2 ⟨rfl, k3, rfl⟩
  go_wp2_with fail
  refine (zzasc_any _ _ _ _ n0 n1 nv n2 _).mono ?_
  rintro e w2 ⟨rfl, q, rfl⟩
  go_wp2_with fail
  refine (pack_any _ _ _ _ n0 n1 n2 nv _).mono ?_
  rintro e w2 ⟨rfl, k4, rfl⟩
  go_wp2_with fail
  refine (zzasc_any _ _ _ _ n0 n1 n2 nv _).mono ?_
  rintro e w2 ⟨rfl, q2, rfl⟩
  go_wp2_with fail
  go_ret
  exact ⟨rfl, by repeat (first | exact hG | apply Grown.drew | apply Grown.alloc)⟩
set_option maxHeartbeats 1600000 in
theorem f9_3_3 (x0 x1 x2 x3 v o0 o1 o2 : Int) (e0 : bits .and .u32 x0 15 = o0) (e1 : bits .and .u32 x1 15 = o1) (e2 : bits .and .u32 x2 15 = o2) (e3 : bits .and .u32 x3 15 = v)
    (nv : Nib v) (n0 : Nib o0) (n1 : Nib o1) (n2 : Nib o2) (hs : srt3 o0 o1 o2 = true) (t0 : o0 ≤ v) (t1 : o1 ≤ v) (t2 : o2 ≤ v) (w : World) :
    Calls Trym.prog 9 #[.agg #[.int .u32 x0, .int .u32 x1, .int .u32 x2, .int .u32 x3], .int .i64 3] w fun e w' => e = .returned (.bool true) ∧ Grown w w' := by
  have hd : o0 ≤ o1 ∧ o1 ≤ o2 := of_decide_eq_true hs
  have A1 : ascB o0 o1 o2 v = true := decide_eq_true (by omega)
  have A3 : beq4 o0 o1 o2 v o0 o1 o2 v = true := beq4_same _ _ _ _
  have QE := run_eq4
  clear hd
  go_enter Trym.func9, Trym.ntmps9
  go_wp2
  refine wp_loop_rounds 5 ?_
  iterate 5 (rw [rounds_succ]; go_wp2_with fail)
  refine (os_3 v o0 o1 o2 _).mono ?_
  rintro e w' ⟨rfl, k1, k2, rfl⟩
  go_wp2_with fail
  refine (zzsettle_3_3 _ v o0 o1 o2 (by omega) _ (Four.fresh9 _ _ (by simp) _ _ _ _ _)).mono ?_
  rintro e w' ⟨rfl, hF, hO⟩
  have d0 : w'.cell? ⟨w.heap.size + 1, 0, none⟩ = some (.int .u32 o0) := (hO.cell _ _ (by omega)).trans (by go_simp)
  have d1 : w'.cell? ⟨w.heap.size + 1, 1, none⟩ = some (.int .u32 o1) := (hO.cell _ _ (by omega)).trans (by go_simp)
  have d2 : w'.cell? ⟨w.heap.size + 1, 2, none⟩ = some (.int .u32 o2) := (hO.cell _ _ (by omega)).trans (by go_simp)
  have d3 : w'.cell? ⟨w.heap.size + 1, 3, none⟩ = some (.int .u32 v) := (hO.cell _ _ (by omega)).trans (by go_simp)
  have hG := hO.grown (W := w) (by repeat (first | exact Grown.refl _ | apply Grown.drew | apply Grown.alloc)) (by omega)
  obtain ⟨c0, c1, c2, c3, fz⟩ := hF
  have hz := hO.size
  simp at hz
  clear hO fz e0 e1 e2 e3
  go_wp2_with fail
  refine (pack_any _ _ _ _ n0 n1 n2 nv _).mono ?_
  rintro e w2 ⟨rfl, k3, rfl⟩
  go_wp2_with fail
  refine (zzasc_any _ _ _ _ n0 n1 n2 nv _).mono ?_
  rintro e w2 ⟨rfl, q, rfl⟩
  go_wp2_with fail
  refine (pack_any _ _ _ _ n0 n1 n2 nv _).mono ?_
  rintro e w2 ⟨rfl, k4, rfl⟩
  go_wp2_with fail
  refine (zzasc_any _ _ _ _ n0 n1 n2 nv _).mono ?_
  rintro e w2 ⟨rfl, q2, rfl⟩
  go_wp2_with fail
  go_ret
  exact ⟨rfl, by repeat (first | exact hG | apply Grown.drew | apply Grown.alloc)⟩
set_option maxHeartbeats 1600000 in
theorem f9_0 (x0 x1 x2 x3 v o0 o1 o2 : Int) (e0 : bits .and .u32 x0 15 = v) (e1 : bits .and .u32 x1 15 = o0) (e2 : bits .and .u32 x2 15 = o1) (e3 : bits .and .u32 x3 15 = o2)
    (nv : Nib v) (n0 : Nib o0) (n1 : Nib o1) (n2 : Nib o2) (w : World) :
    Calls Trym.prog 9 #[.agg #[.int .u32 x0, .int .u32 x1, .int .u32 x2, .int .u32 x3], .int .i64 0] w fun e w' => e = .returned (.bool true) ∧ Grown w w' := by
  by_cases hs : srt3 o0 o1 o2 = true
  · have hd : o0 ≤ o1 ∧ o1 ≤ o2 := of_decide_eq_true hs
    obtain ⟨g1, g2⟩ := hd
    by_cases t0 : o0 < v <;> by_cases t1 : o1 < v <;> by_cases t2 : o2 < v
    · exact f9_0_3 x0 x1 x2 x3 v o0 o1 o2 e0 e1 e2 e3 nv n0 n1 n2 hs t0 t1 t2 w
    · exact f9_0_2 x0 x1 x2 x3 v o0 o1 o2 e0 e1 e2 e3 nv n0 n1 n2 hs t0 t1 t2 w
    · exfalso; omega
    · exact f9_0_1 x0 x1 x2 x3 v o0 o1 o2 e0 e1 e2 e3 nv n0 n1 n2 hs t0 t1 t2 w
    · exfalso; omega
    · exfalso; omega
    · exfalso; omega
    · exact f9_0_0 x0 x1 x2 x3 v o0 o1 o2 e0 e1 e2 e3 nv n0 n1 n2 hs t0 t1 t2 w
  · have hs' : srt3 o0 o1 o2 = false := by simpa using hs
    clear hs
    go_enter Trym.func9, Trym.ntmps9
    go_wp2
    refine wp_loop_rounds 5 ?_
    iterate 5 (rw [rounds_succ]; go_wp2_with fail)
    refine (os_0 v o0 o1 o2 _).mono ?_
    rintro e w' ⟨rfl, k1, k2, rfl⟩
    go_wp2
    go_ret
    exact ⟨rfl, by repeat (first | exact Grown.refl _ | apply Grown.drew | apply Grown.alloc)⟩
set_option maxHeartbeats 1600000 in
theorem f9_1 (x0 x1 x2 x3 v o0 o1 o2 : Int) (e0 : bits .and .u32 x0 15 = o0) (e1 : bits .and .u32 x1 15 = v) (e2 : bits .and .u32 x2 15 = o1) (e3 : bits .and .u32 x3 15 = o2)
    (nv : Nib v) (n0 : Nib o0) (n1 : Nib o1) (n2 : Nib o2) (w : World) :
    Calls Trym.prog 9 #[.agg #[.int .u32 x0, .int .u32 x1, .int .u32 x2, .int .u32 x3], .int .i64 1] w fun e w' => e = .returned (.bool true) ∧ Grown w w' := by
  by_cases hs : srt3 o0 o1 o2 = true
  · have hd : o0 ≤ o1 ∧ o1 ≤ o2 := of_decide_eq_true hs
    obtain ⟨g1, g2⟩ := hd
    by_cases t0 : o0 ≤ v <;> by_cases t1 : o1 < v <;> by_cases t2 : o2 < v
    · exact f9_1_3 x0 x1 x2 x3 v o0 o1 o2 e0 e1 e2 e3 nv n0 n1 n2 hs t0 t1 t2 w
    · exact f9_1_2 x0 x1 x2 x3 v o0 o1 o2 e0 e1 e2 e3 nv n0 n1 n2 hs t0 t1 t2 w
    · exfalso; omega
    · exact f9_1_1 x0 x1 x2 x3 v o0 o1 o2 e0 e1 e2 e3 nv n0 n1 n2 hs t0 t1 t2 w
    · exfalso; omega
    · exfalso; omega
    · exfalso; omega
    · exact f9_1_0 x0 x1 x2 x3 v o0 o1 o2 e0 e1 e2 e3 nv n0 n1 n2 hs t0 t1 t2 w
  · have hs' : srt3 o0 o1 o2 = false := by simpa using hs
    clear hs
    go_enter Trym.func9, Trym.ntmps9
    go_wp2
    refine wp_loop_rounds 5 ?_
    iterate 5 (rw [rounds_succ]; go_wp2_with fail)
    refine (os_1 v o0 o1 o2 _).mono ?_
    rintro e w' ⟨rfl, k1, k2, rfl⟩
    go_wp2
    go_ret
    exact ⟨rfl, by repeat (first | exact Grown.refl _ | apply Grown.drew | apply Grown.alloc)⟩
set_option maxHeartbeats 1600000 in
theorem f9_2 (x0 x1 x2 x3 v o0 o1 o2 : Int) (e0 : bits .and .u32 x0 15 = o0) (e1 : bits .and .u32 x1 15 = o1) (e2 : bits .and .u32 x2 15 = v) (e3 : bits .and .u32 x3 15 = o2)
    (nv : Nib v) (n0 : Nib o0) (n1 : Nib o1) (n2 : Nib o2) (w : World) :
    Calls Trym.prog 9 #[.agg #[.int .u32 x0, .int .u32 x1, .int .u32 x2, .int .u32 x3], .int .i64 2] w fun e w' => e = .returned (.bool true) ∧ Grown w w' := by
  by_cases hs : srt3 o0 o1 o2 = true
  · have hd : o0 ≤ o1 ∧ o1 ≤ o2 := of_decide_eq_true hs
    obtain ⟨g1, g2⟩ := hd
    by_cases t0 : o0 ≤ v <;> by_cases t1 : o1 ≤ v <;> by_cases t2 : o2 < v
    · exact f9_2_3 x0 x1 x2 x3 v o0 o1 o2 e0 e1 e2 e3 nv n0 n1 n2 hs t0 t1 t2 w
    · exact f9_2_2 x0 x1 x2 x3 v o0 o1 o2 e0 e1 e2 e3 nv n0 n1 n2 hs t0 t1 t2 w
    · exfalso; omega
    · exact f9_2_1 x0 x1 x2 x3 v o0 o1 o2 e0 e1 e2 e3 nv n0 n1 n2 hs t0 t1 t2 w
    · exfalso; omega
    · exfalso; omega
    · exfalso; omega
    · exact f9_2_0 x0 x1 x2 x3 v o0 o1 o2 e0 e1 e2 e3 nv n0 n1 n2 hs t0 t1 t2 w
  · have hs' : srt3 o0 o1 o2 = false := by simpa using hs
    clear hs
    go_enter Trym.func9, Trym.ntmps9
    go_wp2
    refine wp_loop_rounds 5 ?_
    iterate 5 (rw [rounds_succ]; go_wp2_with fail)
    refine (os_2 v o0 o1 o2 _).mono ?_
    rintro e w' ⟨rfl, k1, k2, rfl⟩
    go_wp2
    go_ret
    exact ⟨rfl, by repeat (first | exact Grown.refl _ | apply Grown.drew | apply Grown.alloc)⟩
set_option maxHeartbeats 1600000 in
theorem f9_3 (x0 x1 x2 x3 v o0 o1 o2 : Int) (e0 : bits .and .u32 x0 15 = o0) (e1 : bits .and .u32 x1 15 = o1) (e2 : bits .and .u32 x2 15 = o2) (e3 : bits .and .u32 x3 15 = v)
    (nv : Nib v) (n0 : Nib o0) (n1 : Nib o1) (n2 : Nib o2) (w : World) :
    Calls Trym.prog 9 #[.agg #[.int .u32 x0, .int .u32 x1, .int .u32 x2, .int .u32 x3], .int .i64 3] w fun e w' => e = .returned (.bool true) ∧ Grown w w' := by
  by_cases hs : srt3 o0 o1 o2 = true
  · have hd : o0 ≤ o1 ∧ o1 ≤ o2 := of_decide_eq_true hs
    obtain ⟨g1, g2⟩ := hd
    by_cases t0 : o0 ≤ v <;> by_cases t1 : o1 ≤ v <;> by_cases t2 : o2 ≤ v
    · exact f9_3_3 x0 x1 x2 x3 v o0 o1 o2 e0 e1 e2 e3 nv n0 n1 n2 hs t0 t1 t2 w
    · exact f9_3_2 x0 x1 x2 x3 v o0 o1 o2 e0 e1 e2 e3 nv n0 n1 n2 hs t0 t1 t2 w
    · exfalso; omega
    · exact f9_3_1 x0 x1 x2 x3 v o0 o1 o2 e0 e1 e2 e3 nv n0 n1 n2 hs t0 t1 t2 w
    · exfalso; omega
    · exfalso; omega
    · exfalso; omega
    · exact f9_3_0 x0 x1 x2 x3 v o0 o1 o2 e0 e1 e2 e3 nv n0 n1 n2 hs t0 t1 t2 w
  · have hs' : srt3 o0 o1 o2 = false := by simpa using hs
    clear hs
    go_enter Trym.func9, Trym.ntmps9
    go_wp2
    refine wp_loop_rounds 5 ?_
    iterate 5 (rw [rounds_succ]; go_wp2_with fail)
    refine (os_3 v o0 o1 o2 _).mono ?_
    rintro e w' ⟨rfl, k1, k2, rfl⟩
    go_wp2
    go_ret
    exact ⟨rfl, by repeat (first | exact Grown.refl _ | apply Grown.drew | apply Grown.alloc)⟩
theorem nib_of (x : Int) (h0 : 0 ≤ x) (h1 : x ≤ 4294967295) : ∃ y, bits .and .u32 x 15 = y ∧ Nib y :=
  ⟨x % 16, u32_and15 x h0 h1, by omega, by omega⟩
set_option maxHeartbeats 1600000 in
theorem f9_any (x0 x1 x2 x3 s : Int) (a0 : 0 ≤ x0 ∧ x0 ≤ 4294967295) (a1 : 0 ≤ x1 ∧ x1 ≤ 4294967295) (a2 : 0 ≤ x2 ∧ x2 ≤ 4294967295) (a3 : 0 ≤ x3 ∧ x3 ≤ 4294967295) (w : World) :
    Calls Trym.prog 9 #[.agg #[.int .u32 x0, .int .u32 x1, .int .u32 x2, .int .u32 x3], .int .i64 s] w fun e w' => e = .returned (.bool true) ∧ Grown w w' := by
  by_cases l : s < 0
  · clear a0 a1 a2 a3
    go_enter Trym.func9, Trym.ntmps9
    go_wp2
    go_ret
    exact ⟨rfl, by repeat (first | exact Grown.refl _ | apply Grown.drew | apply Grown.alloc)⟩
  by_cases g : 3 < s
  · clear a0 a1 a2 a3
    go_enter Trym.func9, Trym.ntmps9
    go_wp2
    go_ret
    exact ⟨rfl, by repeat (first | exact Grown.refl _ | apply Grown.drew | apply Grown.alloc)⟩
  obtain ⟨y0, e0, n0⟩ := nib_of x0 a0.1 a0.2
  obtain ⟨y1, e1, n1⟩ := nib_of x1 a1.1 a1.2
  obtain ⟨y2, e2, n2⟩ := nib_of x2 a2.1 a2.2
  obtain ⟨y3, e3, n3⟩ := nib_of x3 a3.1 a3.2
  have h : s = 0 ∨ s = 1 ∨ s = 2 ∨ s = 3 := by omega
  rcases h with rfl | rfl | rfl | rfl
  · exact f9_0 x0 x1 x2 x3 y0 y1 y2 y3 e0 e1 e2 e3 n0 n1 n2 n3 w
  · exact f9_1 x0 x1 x2 x3 y1 y0 y2 y3 e0 e1 e2 e3 n1 n0 n2 n3 w
  · exact f9_2 x0 x1 x2 x3 y2 y0 y1 y3 e0 e1 e2 e3 n2 n0 n1 n3 w
  · exact f9_3 x0 x1 x2 x3 y3 y0 y1 y2 e0 e1 e2 e3 n3 n0 n1 n2 w
end Go.Proofs.Qxb6600190aMods
