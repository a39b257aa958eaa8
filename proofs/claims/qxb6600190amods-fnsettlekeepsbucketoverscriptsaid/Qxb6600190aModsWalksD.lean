/- The walk of 'settle' and its shim: sixteen ways (the place s at which the new value v was put, the place r at which it comes to rest). -/
import Derived.Test.Qxb6600190aModsRows
import Derived.WalkKit
import Derived.WalkSpells
import Derived.LoopN
import Derived.Deep.QuietTactic
import Derived.BigQuiet
import Derived.BigRegion
import Derived.RegionTactic
import Derived.Laws.Pointers
namespace Go.Proofs.Qxb6600190aMods
open Go.RowKit
set_option linter.unusedVariables false

/-- Block b holds the four values, in its first four cells, and may be written. -/
structure Four (b : Nat) (w : World) (x0 x1 x2 x3 : Int) : Prop where
  c0 : w.cell? ⟨b, 0, none⟩ = some (.int .u32 x0)
  c1 : w.cell? ⟨b, 1, none⟩ = some (.int .u32 x1)
  c2 : w.cell? ⟨b, 2, none⟩ = some (.int .u32 x2)
  c3 : w.cell? ⟨b, 3, none⟩ = some (.int .u32 x3)
  fz : ∀ j, w.frozen? ⟨b, j, none⟩ = false
theorem ne_off {b i j : Nat} (h : i ≠ j) : (⟨b, i, none⟩ : Addr) ≠ ⟨b, j, none⟩ := by intro e; cases e; exact h rfl
theorem Four.drewN {b : Nat} {w : World} {x0 x1 x2 x3 : Int} (h : Four b w x0 x1 x2 x3) (q : Nat) : Four b (w.drewN q) x0 x1 x2 x3 := ⟨h.c0, h.c1, h.c2, h.c3, h.fz⟩
theorem Four.drew {b : Nat} {w : World} {x0 x1 x2 x3 : Int} (h : Four b w x0 x1 x2 x3) : Four b w.drew x0 x1 x2 x3 := ⟨h.c0, h.c1, h.c2, h.c3, h.fz⟩
theorem Four.set0 {b : Nat} {w : World} {x0 x1 x2 x3 : Int} (h : Four b w x0 x1 x2 x3) (y : Int) : Four b (w.setCell ⟨b, 0, none⟩ (.int .u32 y)) y x1 x2 x3 :=
  ⟨World.cell?_setCell_same _ _ _ h.c0, (World.cell?_setCell_other _ _ _ _ (ne_off (by decide))).trans h.c1, (World.cell?_setCell_other _ _ _ _ (ne_off (by decide))).trans h.c2, (World.cell?_setCell_other _ _ _ _ (ne_off (by decide))).trans h.c3, fun j => (World.frozen?_setCell _ _ _ _).trans (h.fz j)⟩
theorem Four.set1 {b : Nat} {w : World} {x0 x1 x2 x3 : Int} (h : Four b w x0 x1 x2 x3) (y : Int) : Four b (w.setCell ⟨b, 1, none⟩ (.int .u32 y)) x0 y x2 x3 :=
  ⟨(World.cell?_setCell_other _ _ _ _ (ne_off (by decide))).trans h.c0, World.cell?_setCell_same _ _ _ h.c1, (World.cell?_setCell_other _ _ _ _ (ne_off (by decide))).trans h.c2, (World.cell?_setCell_other _ _ _ _ (ne_off (by decide))).trans h.c3, fun j => (World.frozen?_setCell _ _ _ _).trans (h.fz j)⟩
theorem Four.set2 {b : Nat} {w : World} {x0 x1 x2 x3 : Int} (h : Four b w x0 x1 x2 x3) (y : Int) : Four b (w.setCell ⟨b, 2, none⟩ (.int .u32 y)) x0 x1 y x3 :=
  ⟨(World.cell?_setCell_other _ _ _ _ (ne_off (by decide))).trans h.c0, (World.cell?_setCell_other _ _ _ _ (ne_off (by decide))).trans h.c1, World.cell?_setCell_same _ _ _ h.c2, (World.cell?_setCell_other _ _ _ _ (ne_off (by decide))).trans h.c3, fun j => (World.frozen?_setCell _ _ _ _).trans (h.fz j)⟩
theorem Four.set3 {b : Nat} {w : World} {x0 x1 x2 x3 : Int} (h : Four b w x0 x1 x2 x3) (y : Int) : Four b (w.setCell ⟨b, 3, none⟩ (.int .u32 y)) x0 x1 x2 y :=
  ⟨(World.cell?_setCell_other _ _ _ _ (ne_off (by decide))).trans h.c0, (World.cell?_setCell_other _ _ _ _ (ne_off (by decide))).trans h.c1, (World.cell?_setCell_other _ _ _ _ (ne_off (by decide))).trans h.c2, World.cell?_setCell_same _ _ _ h.c3, fun j => (World.frozen?_setCell _ _ _ _).trans (h.fz j)⟩

/-- Of w at most block b has been written; draws were made. -/
structure Only (b : Nat) (w w' : World) : Prop where
  os : w'.os = w.os
  tape : w'.tape = w.tape
  output : w'.output = w.output
  size : w'.heap.size = w.heap.size
  block : ∀ k, k ≠ b → w'.heap[k]? = w.heap[k]?
  fz : ∀ a, w'.frozen? a = w.frozen? a
theorem Only.refl (b : Nat) (w : World) : Only b w w := ⟨rfl, rfl, rfl, rfl, fun _ _ => rfl, fun _ => rfl⟩
theorem Only.drewN {b : Nat} {w w' : World} (h : Only b w w') (q : Nat) : Only b w (w'.drewN q) := ⟨h.os, h.tape, h.output, h.size, h.block, h.fz⟩
theorem Only.drew {b : Nat} {w w' : World} (h : Only b w w') : Only b w w'.drew := ⟨h.os, h.tape, h.output, h.size, h.block, h.fz⟩
theorem Only.setCell {b : Nat} {w w' : World} (h : Only b w w') (i : Nat) (v : Value) : Only b w (w'.setCell ⟨b, i, none⟩ v) :=
  ⟨h.os, h.tape, h.output, by simpa [World.setCell] using h.size, fun k hk => (Below.heap_setCell _ _ _ _ hk).trans (h.block k hk), fun a => (World.frozen?_setCell _ _ _ _).trans (h.fz a)⟩
theorem Only.trans {b : Nat} {u v w : World} (h : Only b u v) (k : Only b v w) : Only b u w :=
  ⟨k.os.trans h.os, k.tape.trans h.tape, k.output.trans h.output, k.size.trans h.size, fun i hi => (k.block i hi).trans (h.block i hi), fun a => (k.fz a).trans (h.fz a)⟩
theorem Only.cell {b : Nat} {w w' : World} (h : Only b w w') (k i : Nat) (hk : k ≠ b) : w'.cell? ⟨k, i, none⟩ = w.cell? ⟨k, i, none⟩ := World.cell?_of_block (w := w) (h.block k hk)
theorem Only.grown {b : Nat} {W w w' : World} (h : Only b w w') (g : Grown W w) (hb : W.heap.size ≤ b) : Grown W w' := by
  obtain ⟨⟨g1, g2, g3⟩, gf, gs⟩ := g
  refine ⟨⟨h.os.trans g1, h.output.trans g2, fun i hi => ?_⟩, fun a => (h.fz a).trans (gf a), by rw [h.size]; exact gs⟩
  rw [h.block i (by omega)]
  exact g3 i hi

set_option maxHeartbeats 1600000 in
theorem settle_0_0 (b : Nat) (v o0 o1 o2 : Int) (h0 : ¬ o0 < v) (w : World) (hF : Four b w v o0 o1 o2) :
    Calls Trym.prog 23 #[.pointer (some ⟨b, 0, none⟩), .int .i64 0] w fun e w' => e = .returned (.int .i64 0) ∧ Four b w' v o0 o1 o2 ∧ Only b w w' := by
  have HF := hF
  obtain ⟨c0, c1, c2, c3, fz⟩ := hF
  go_enter Trym.func23, Trym.ntmps23
  go_wp2
  refine wp_loop_rounds 1 ?_
  rw [rounds_succ]
  go_wp2
  go_quiet (fail)
  go_wp2
  refine wp_loop_rounds 1 ?_
  rw [rounds_succ]
  go_wp2
  go_quiet (fail)
  go_wp2
  go_ret
  exact ⟨rfl, by repeat (first | exact HF | apply Four.drewN | apply Four.drew | apply Four.set0 | apply Four.set1 | apply Four.set2 | apply Four.set3), by repeat (first | exact Only.refl _ _ | apply Only.drewN | apply Only.drew | apply Only.setCell)⟩

set_option maxHeartbeats 1600000 in
theorem settle_0_1 (b : Nat) (v o0 o1 o2 : Int) (h0 : o0 < v) (h1 : ¬ o1 < v) (w : World) (hF : Four b w v o0 o1 o2) :
    Calls Trym.prog 23 #[.pointer (some ⟨b, 0, none⟩), .int .i64 0] w fun e w' => e = .returned (.int .i64 1) ∧ Four b w' o0 v o1 o2 ∧ Only b w w' := by
  have HF := hF
  obtain ⟨c0, c1, c2, c3, fz⟩ := hF
  go_enter Trym.func23, Trym.ntmps23
  go_wp2
  refine wp_loop_rounds 1 ?_
  rw [rounds_succ]
  go_wp2
  go_quiet (fail)
  go_wp2
  refine wp_loop_rounds 2 ?_
  rw [rounds_succ]
  go_wp2
  go_quiet (fail)
  go_wp2
  go_region
  go_wp2
  rw [rounds_succ]
  go_wp2
  go_quiet (fail)
  go_wp2
  go_ret
  exact ⟨rfl, by repeat (first | exact HF | apply Four.drewN | apply Four.drew | apply Four.set0 | apply Four.set1 | apply Four.set2 | apply Four.set3), by repeat (first | exact Only.refl _ _ | apply Only.drewN | apply Only.drew | apply Only.setCell)⟩

set_option maxHeartbeats 1600000 in
theorem settle_0_2 (b : Nat) (v o0 o1 o2 : Int) (h0 : o0 < v) (h1 : o1 < v) (h2 : ¬ o2 < v) (w : World) (hF : Four b w v o0 o1 o2) :
    Calls Trym.prog 23 #[.pointer (some ⟨b, 0, none⟩), .int .i64 0] w fun e w' => e = .returned (.int .i64 2) ∧ Four b w' o0 o1 v o2 ∧ Only b w w' := by
  have HF := hF
  obtain ⟨c0, c1, c2, c3, fz⟩ := hF
  go_enter Trym.func23, Trym.ntmps23
  go_wp2
  refine wp_loop_rounds 1 ?_
  rw [rounds_succ]
  go_wp2
  go_quiet (fail)
  go_wp2
  refine wp_loop_rounds 3 ?_
  rw [rounds_succ]
  go_wp2
  go_quiet (fail)
  go_wp2
  go_region
  go_wp2
  rw [rounds_succ]
  go_wp2
  go_quiet (fail)
  go_wp2
  go_region
  go_wp2
  rw [rounds_succ]
  go_wp2
  go_quiet (fail)
  go_wp2
  go_ret
  exact ⟨rfl, by repeat (first | exact HF | apply Four.drewN | apply Four.drew | apply Four.set0 | apply Four.set1 | apply Four.set2 | apply Four.set3), by repeat (first | exact Only.refl _ _ | apply Only.drewN | apply Only.drew | apply Only.setCell)⟩

set_option maxHeartbeats 3200000 in
theorem settle_0_3 (b : Nat) (v o0 o1 o2 : Int) (h0 : o0 < v) (h1 : o1 < v) (h2 : o2 < v) (w : World) (hF : Four b w v o0 o1 o2) :
    Calls Trym.prog 23 #[.pointer (some ⟨b, 0, none⟩), .int .i64 0] w fun e w' => e = .returned (.int .i64 3) ∧ Four b w' o0 o1 o2 v ∧ Only b w w' := by
  go_enter Trym.func23, Trym.ntmps23
  go_wp2
  refine wp_loop_rounds 1 ?_
  rw [rounds_succ]
  go_wp2
  go_quiet (fail)
  go_wp2
  go_loopw [1] (fun i wr => Only b w wr ∧ ((i = .int .i64 0 ∧ Four b wr v o0 o1 o2) ∨ (i = .int .i64 1 ∧ Four b wr o0 v o1 o2) ∨ (i = .int .i64 2 ∧ Four b wr o0 o1 v o2) ∨ (i = .int .i64 3 ∧ Four b wr o0 o1 o2 v))) (fun i _ => 3 - (intOf i).toNat)
  case atStart => exact ⟨by repeat (first | exact Only.refl _ _ | apply Only.drewN | apply Only.drew), .inl ⟨rfl, by repeat (first | exact hF | apply Four.drewN | apply Four.drew)⟩⟩
  case round =>
    clear hF
    obtain ⟨hO, ⟨rfl, hF⟩ | ⟨rfl, hF⟩ | ⟨rfl, hF⟩ | ⟨rfl, hF⟩⟩ := hrel
    · have HF := hF
      obtain ⟨c0, c1, c2, c3, fz⟩ := hF
      go_wp2
      go_quiet (fail)
      go_wp2
      go_region
      go_wp2
      go_roundw
      case rel => exact ⟨by repeat (first | exact hO | apply Only.drewN | apply Only.drew | apply Only.setCell), .inr (.inl ⟨rfl, by repeat (first | exact HF | apply Four.drewN | apply Four.drew | apply Four.set0 | apply Four.set1 | apply Four.set2 | apply Four.set3)⟩)⟩
      case measure => simp [intOf]
    · have HF := hF
      obtain ⟨c0, c1, c2, c3, fz⟩ := hF
      go_wp2
      go_quiet (fail)
      go_wp2
      go_region
      go_wp2
      go_roundw
      case rel => exact ⟨by repeat (first | exact hO | apply Only.drewN | apply Only.drew | apply Only.setCell), .inr (.inr (.inl ⟨rfl, by repeat (first | exact HF | apply Four.drewN | apply Four.drew | apply Four.set0 | apply Four.set1 | apply Four.set2 | apply Four.set3)⟩))⟩
      case measure => simp [intOf]
    · have HF := hF
      obtain ⟨c0, c1, c2, c3, fz⟩ := hF
      go_wp2
      go_quiet (fail)
      go_wp2
      go_region
      go_wp2
      go_roundw
      case rel => exact ⟨by repeat (first | exact hO | apply Only.drewN | apply Only.drew | apply Only.setCell), .inr (.inr (.inr ⟨rfl, by repeat (first | exact HF | apply Four.drewN | apply Four.drew | apply Four.set0 | apply Four.set1 | apply Four.set2 | apply Four.set3)⟩))⟩
      case measure => simp [intOf]
    · have HF := hF
      obtain ⟨c0, c1, c2, c3, fz⟩ := hF
      go_wp2
      go_quiet (fail)
      go_wp2
      go_ret
      exact ⟨rfl, by repeat (first | exact HF | apply Four.drewN | apply Four.drew), by repeat (first | exact hO | apply Only.drewN | apply Only.drew)⟩

set_option maxHeartbeats 1600000 in
theorem settle_1_0 (b : Nat) (v o0 o1 o2 : Int) (h0 : v < o0) (w : World) (hF : Four b w o0 v o1 o2) :
    Calls Trym.prog 23 #[.pointer (some ⟨b, 0, none⟩), .int .i64 1] w fun e w' => e = .returned (.int .i64 0) ∧ Four b w' v o0 o1 o2 ∧ Only b w w' := by
  have k0 : ¬ o0 < v := by omega
  have HF := hF
  obtain ⟨c0, c1, c2, c3, fz⟩ := hF
  go_enter Trym.func23, Trym.ntmps23
  go_wp2
  refine wp_loop_rounds 2 ?_
  rw [rounds_succ]
  go_wp2
  go_quiet (fail)
  go_wp2
  go_region
  go_wp2
  rw [rounds_succ]
  go_wp2
  go_quiet (fail)
  go_wp2
  refine wp_loop_rounds 1 ?_
  rw [rounds_succ]
  go_wp2
  go_quiet (fail)
  go_wp2
  go_ret
  exact ⟨rfl, by repeat (first | exact HF | apply Four.drewN | apply Four.drew | apply Four.set0 | apply Four.set1 | apply Four.set2 | apply Four.set3), by repeat (first | exact Only.refl _ _ | apply Only.drewN | apply Only.drew | apply Only.setCell)⟩

set_option maxHeartbeats 1600000 in
theorem settle_1_1 (b : Nat) (v o0 o1 o2 : Int) (h0 : ¬ v < o0) (h1 : ¬ o1 < v) (w : World) (hF : Four b w o0 v o1 o2) :
    Calls Trym.prog 23 #[.pointer (some ⟨b, 0, none⟩), .int .i64 1] w fun e w' => e = .returned (.int .i64 1) ∧ Four b w' o0 v o1 o2 ∧ Only b w w' := by
  have HF := hF
  obtain ⟨c0, c1, c2, c3, fz⟩ := hF
  go_enter Trym.func23, Trym.ntmps23
  go_wp2
  refine wp_loop_rounds 1 ?_
  rw [rounds_succ]
  go_wp2
  go_quiet (fail)
  go_wp2
  refine wp_loop_rounds 1 ?_
  rw [rounds_succ]
  go_wp2
  go_quiet (fail)
  go_wp2
  go_ret
  exact ⟨rfl, by repeat (first | exact HF | apply Four.drewN | apply Four.drew | apply Four.set0 | apply Four.set1 | apply Four.set2 | apply Four.set3), by repeat (first | exact Only.refl _ _ | apply Only.drewN | apply Only.drew | apply Only.setCell)⟩

set_option maxHeartbeats 1600000 in
theorem settle_1_2 (b : Nat) (v o0 o1 o2 : Int) (h0 : ¬ v < o0) (h1 : o1 < v) (h2 : ¬ o2 < v) (w : World) (hF : Four b w o0 v o1 o2) :
    Calls Trym.prog 23 #[.pointer (some ⟨b, 0, none⟩), .int .i64 1] w fun e w' => e = .returned (.int .i64 2) ∧ Four b w' o0 o1 v o2 ∧ Only b w w' := by
  have HF := hF
  obtain ⟨c0, c1, c2, c3, fz⟩ := hF
  go_enter Trym.func23, Trym.ntmps23
  go_wp2
  refine wp_loop_rounds 1 ?_
  rw [rounds_succ]
  go_wp2
  go_quiet (fail)
  go_wp2
  refine wp_loop_rounds 2 ?_
  rw [rounds_succ]
  go_wp2
  go_quiet (fail)
  go_wp2
  go_region
  go_wp2
  rw [rounds_succ]
  go_wp2
  go_quiet (fail)
  go_wp2
  go_ret
  exact ⟨rfl, by repeat (first | exact HF | apply Four.drewN | apply Four.drew | apply Four.set0 | apply Four.set1 | apply Four.set2 | apply Four.set3), by repeat (first | exact Only.refl _ _ | apply Only.drewN | apply Only.drew | apply Only.setCell)⟩

set_option maxHeartbeats 1600000 in
theorem settle_1_3 (b : Nat) (v o0 o1 o2 : Int) (h0 : ¬ v < o0) (h1 : o1 < v) (h2 : o2 < v) (w : World) (hF : Four b w o0 v o1 o2) :
    Calls Trym.prog 23 #[.pointer (some ⟨b, 0, none⟩), .int .i64 1] w fun e w' => e = .returned (.int .i64 3) ∧ Four b w' o0 o1 o2 v ∧ Only b w w' := by
  have HF := hF
  obtain ⟨c0, c1, c2, c3, fz⟩ := hF
  go_enter Trym.func23, Trym.ntmps23
  go_wp2
  refine wp_loop_rounds 1 ?_
  rw [rounds_succ]
  go_wp2
  go_quiet (fail)
  go_wp2
  refine wp_loop_rounds 3 ?_
  rw [rounds_succ]
  go_wp2
  go_quiet (fail)
  go_wp2
  go_region
  go_wp2
  rw [rounds_succ]
  go_wp2
  go_quiet (fail)
  go_wp2
  go_region
  go_wp2
  rw [rounds_succ]
  go_wp2
  go_quiet (fail)
  go_wp2
  go_ret
  exact ⟨rfl, by repeat (first | exact HF | apply Four.drewN | apply Four.drew | apply Four.set0 | apply Four.set1 | apply Four.set2 | apply Four.set3), by repeat (first | exact Only.refl _ _ | apply Only.drewN | apply Only.drew | apply Only.setCell)⟩

set_option maxHeartbeats 1600000 in
theorem settle_2_0 (b : Nat) (v o0 o1 o2 : Int) (h0 : v < o0) (h1 : v < o1) (w : World) (hF : Four b w o0 o1 v o2) :
    Calls Trym.prog 23 #[.pointer (some ⟨b, 0, none⟩), .int .i64 2] w fun e w' => e = .returned (.int .i64 0) ∧ Four b w' v o0 o1 o2 ∧ Only b w w' := by
  have k0 : ¬ o0 < v := by omega
  have HF := hF
  obtain ⟨c0, c1, c2, c3, fz⟩ := hF
  go_enter Trym.func23, Trym.ntmps23
  go_wp2
  refine wp_loop_rounds 3 ?_
  rw [rounds_succ]
  go_wp2
  go_quiet (fail)
  go_wp2
  go_region
  go_wp2
  rw [rounds_succ]
  go_wp2
  go_quiet (fail)
  go_wp2
  go_region
  go_wp2
  rw [rounds_succ]
  go_wp2
  go_quiet (fail)
  go_wp2
  refine wp_loop_rounds 1 ?_
  rw [rounds_succ]
  go_wp2
  go_quiet (fail)
  go_wp2
  go_ret
  exact ⟨rfl, by repeat (first | exact HF | apply Four.drewN | apply Four.drew | apply Four.set0 | apply Four.set1 | apply Four.set2 | apply Four.set3), by repeat (first | exact Only.refl _ _ | apply Only.drewN | apply Only.drew | apply Only.setCell)⟩

set_option maxHeartbeats 1600000 in
theorem settle_2_1 (b : Nat) (v o0 o1 o2 : Int) (h0 : v < o1) (h1 : ¬ v < o0) (w : World) (hF : Four b w o0 o1 v o2) :
    Calls Trym.prog 23 #[.pointer (some ⟨b, 0, none⟩), .int .i64 2] w fun e w' => e = .returned (.int .i64 1) ∧ Four b w' o0 v o1 o2 ∧ Only b w w' := by
  have k0 : ¬ o1 < v := by omega
  have HF := hF
  obtain ⟨c0, c1, c2, c3, fz⟩ := hF
  go_enter Trym.func23, Trym.ntmps23
  go_wp2
  refine wp_loop_rounds 2 ?_
  rw [rounds_succ]
  go_wp2
  go_quiet (fail)
  go_wp2
  go_region
  go_wp2
  rw [rounds_succ]
  go_wp2
  go_quiet (fail)
  go_wp2
  refine wp_loop_rounds 1 ?_
  rw [rounds_succ]
  go_wp2
  go_quiet (fail)
  go_wp2
  go_ret
  exact ⟨rfl, by repeat (first | exact HF | apply Four.drewN | apply Four.drew | apply Four.set0 | apply Four.set1 | apply Four.set2 | apply Four.set3), by repeat (first | exact Only.refl _ _ | apply Only.drewN | apply Only.drew | apply Only.setCell)⟩

set_option maxHeartbeats 1600000 in
theorem settle_2_2 (b : Nat) (v o0 o1 o2 : Int) (h0 : ¬ v < o1) (h1 : ¬ o2 < v) (w : World) (hF : Four b w o0 o1 v o2) :
    Calls Trym.prog 23 #[.pointer (some ⟨b, 0, none⟩), .int .i64 2] w fun e w' => e = .returned (.int .i64 2) ∧ Four b w' o0 o1 v o2 ∧ Only b w w' := by
  have HF := hF
  obtain ⟨c0, c1, c2, c3, fz⟩ := hF
  go_enter Trym.func23, Trym.ntmps23
  go_wp2
  refine wp_loop_rounds 1 ?_
  rw [rounds_succ]
  go_wp2
  go_quiet (fail)
  go_wp2
  refine wp_loop_rounds 1 ?_
  rw [rounds_succ]
  go_wp2
  go_quiet (fail)
  go_wp2
  go_ret
  exact ⟨rfl, by repeat (first | exact HF | apply Four.drewN | apply Four.drew | apply Four.set0 | apply Four.set1 | apply Four.set2 | apply Four.set3), by repeat (first | exact Only.refl _ _ | apply Only.drewN | apply Only.drew | apply Only.setCell)⟩

set_option maxHeartbeats 1600000 in
theorem settle_2_3 (b : Nat) (v o0 o1 o2 : Int) (h0 : ¬ v < o1) (h1 : o2 < v) (w : World) (hF : Four b w o0 o1 v o2) :
    Calls Trym.prog 23 #[.pointer (some ⟨b, 0, none⟩), .int .i64 2] w fun e w' => e = .returned (.int .i64 3) ∧ Four b w' o0 o1 o2 v ∧ Only b w w' := by
  have HF := hF
  obtain ⟨c0, c1, c2, c3, fz⟩ := hF
  go_enter Trym.func23, Trym.ntmps23
  go_wp2
  refine wp_loop_rounds 1 ?_
  rw [rounds_succ]
  go_wp2
  go_quiet (fail)
  go_wp2
  refine wp_loop_rounds 2 ?_
  rw [rounds_succ]
  go_wp2
  go_quiet (fail)
  go_wp2
  go_region
  go_wp2
  rw [rounds_succ]
  go_wp2
  go_quiet (fail)
  go_wp2
  go_ret
  exact ⟨rfl, by repeat (first | exact HF | apply Four.drewN | apply Four.drew | apply Four.set0 | apply Four.set1 | apply Four.set2 | apply Four.set3), by repeat (first | exact Only.refl _ _ | apply Only.drewN | apply Only.drew | apply Only.setCell)⟩

set_option maxHeartbeats 3200000 in
theorem settle_3_0 (b : Nat) (v o0 o1 o2 : Int) (h0 : v < o0) (h1 : v < o1) (h2 : v < o2) (w : World) (hF : Four b w o0 o1 o2 v) :
    Calls Trym.prog 23 #[.pointer (some ⟨b, 0, none⟩), .int .i64 3] w fun e w' => e = .returned (.int .i64 0) ∧ Four b w' v o0 o1 o2 ∧ Only b w w' := by
  have k0 : ¬ o0 < v := by omega
  go_enter Trym.func23, Trym.ntmps23
  go_wp2
  go_loopw [1] (fun i wr => Only b w wr ∧ ((i = .int .i64 3 ∧ Four b wr o0 o1 o2 v) ∨ (i = .int .i64 2 ∧ Four b wr o0 o1 v o2) ∨ (i = .int .i64 1 ∧ Four b wr o0 v o1 o2) ∨ (i = .int .i64 0 ∧ Four b wr v o0 o1 o2))) (fun i _ => (intOf i).toNat)
  case atStart => exact ⟨by repeat (first | exact Only.refl _ _ | apply Only.drewN | apply Only.drew), .inl ⟨rfl, by repeat (first | exact hF | apply Four.drewN | apply Four.drew)⟩⟩
  case round =>
    clear hF
    obtain ⟨hO, ⟨rfl, hF⟩ | ⟨rfl, hF⟩ | ⟨rfl, hF⟩ | ⟨rfl, hF⟩⟩ := hrel
    · have HF := hF
      obtain ⟨c0, c1, c2, c3, fz⟩ := hF
      go_wp2
      go_quiet (fail)
      go_wp2
      go_region
      go_wp2
      go_roundw
      case rel => exact ⟨by repeat (first | exact hO | apply Only.drewN | apply Only.drew | apply Only.setCell), .inr (.inl ⟨rfl, by repeat (first | exact HF | apply Four.drewN | apply Four.drew | apply Four.set0 | apply Four.set1 | apply Four.set2 | apply Four.set3)⟩)⟩
      case measure => simp [intOf]
    · have HF := hF
      obtain ⟨c0, c1, c2, c3, fz⟩ := hF
      go_wp2
      go_quiet (fail)
      go_wp2
      go_region
      go_wp2
      go_roundw
      case rel => exact ⟨by repeat (first | exact hO | apply Only.drewN | apply Only.drew | apply Only.setCell), .inr (.inr (.inl ⟨rfl, by repeat (first | exact HF | apply Four.drewN | apply Four.drew | apply Four.set0 | apply Four.set1 | apply Four.set2 | apply Four.set3)⟩))⟩
      case measure => simp [intOf]
    · have HF := hF
      obtain ⟨c0, c1, c2, c3, fz⟩ := hF
      go_wp2
      go_quiet (fail)
      go_wp2
      go_region
      go_wp2
      go_roundw
      case rel => exact ⟨by repeat (first | exact hO | apply Only.drewN | apply Only.drew | apply Only.setCell), .inr (.inr (.inr ⟨rfl, by repeat (first | exact HF | apply Four.drewN | apply Four.drew | apply Four.set0 | apply Four.set1 | apply Four.set2 | apply Four.set3)⟩))⟩
      case measure => simp [intOf]
    · have HF := hF
      obtain ⟨c0, c1, c2, c3, fz⟩ := hF
      go_wp2
      go_quiet (fail)
      go_wp2
      refine wp_loop_rounds 1 ?_
      rw [rounds_succ]
      go_wp2
      go_quiet (fail)
      go_wp2
      go_ret
      exact ⟨rfl, by repeat (first | exact HF | apply Four.drewN | apply Four.drew), by repeat (first | exact hO | apply Only.drewN | apply Only.drew)⟩

set_option maxHeartbeats 1600000 in
theorem settle_3_1 (b : Nat) (v o0 o1 o2 : Int) (h0 : v < o1) (h1 : v < o2) (h2 : ¬ v < o0) (w : World) (hF : Four b w o0 o1 o2 v) :
    Calls Trym.prog 23 #[.pointer (some ⟨b, 0, none⟩), .int .i64 3] w fun e w' => e = .returned (.int .i64 1) ∧ Four b w' o0 v o1 o2 ∧ Only b w w' := by
  have k0 : ¬ o1 < v := by omega
  have HF := hF
  obtain ⟨c0, c1, c2, c3, fz⟩ := hF
  go_enter Trym.func23, Trym.ntmps23
  go_wp2
  refine wp_loop_rounds 3 ?_
  rw [rounds_succ]
  go_wp2
  go_quiet (fail)
  go_wp2
  go_region
  go_wp2
  rw [rounds_succ]
  go_wp2
  go_quiet (fail)
  go_wp2
  go_region
  go_wp2
  rw [rounds_succ]
  go_wp2
  go_quiet (fail)
  go_wp2
  refine wp_loop_rounds 1 ?_
  rw [rounds_succ]
  go_wp2
  go_quiet (fail)
  go_wp2
  go_ret
  exact ⟨rfl, by repeat (first | exact HF | apply Four.drewN | apply Four.drew | apply Four.set0 | apply Four.set1 | apply Four.set2 | apply Four.set3), by repeat (first | exact Only.refl _ _ | apply Only.drewN | apply Only.drew | apply Only.setCell)⟩

set_option maxHeartbeats 1600000 in
theorem settle_3_2 (b : Nat) (v o0 o1 o2 : Int) (h0 : v < o2) (h1 : ¬ v < o1) (w : World) (hF : Four b w o0 o1 o2 v) :
    Calls Trym.prog 23 #[.pointer (some ⟨b, 0, none⟩), .int .i64 3] w fun e w' => e = .returned (.int .i64 2) ∧ Four b w' o0 o1 v o2 ∧ Only b w w' := by
  have k0 : ¬ o2 < v := by omega
  have HF := hF
  obtain ⟨c0, c1, c2, c3, fz⟩ := hF
  go_enter Trym.func23, Trym.ntmps23
  go_wp2
  refine wp_loop_rounds 2 ?_
  rw [rounds_succ]
  go_wp2
  go_quiet (fail)
  go_wp2
  go_region
  go_wp2
  rw [rounds_succ]
  go_wp2
  go_quiet (fail)
  go_wp2
  refine wp_loop_rounds 1 ?_
  rw [rounds_succ]
  go_wp2
  go_quiet (fail)
  go_wp2
  go_ret
  exact ⟨rfl, by repeat (first | exact HF | apply Four.drewN | apply Four.drew | apply Four.set0 | apply Four.set1 | apply Four.set2 | apply Four.set3), by repeat (first | exact Only.refl _ _ | apply Only.drewN | apply Only.drew | apply Only.setCell)⟩

set_option maxHeartbeats 1600000 in
theorem settle_3_3 (b : Nat) (v o0 o1 o2 : Int) (h0 : ¬ v < o2) (w : World) (hF : Four b w o0 o1 o2 v) :
    Calls Trym.prog 23 #[.pointer (some ⟨b, 0, none⟩), .int .i64 3] w fun e w' => e = .returned (.int .i64 3) ∧ Four b w' o0 o1 o2 v ∧ Only b w w' := by
  have HF := hF
  obtain ⟨c0, c1, c2, c3, fz⟩ := hF
  go_enter Trym.func23, Trym.ntmps23
  go_wp2
  refine wp_loop_rounds 1 ?_
  rw [rounds_succ]
  go_wp2
  go_quiet (fail)
  go_wp2
  refine wp_loop_rounds 1 ?_
  rw [rounds_succ]
  go_wp2
  go_quiet (fail)
  go_wp2
  go_ret
  exact ⟨rfl, by repeat (first | exact HF | apply Four.drewN | apply Four.drew | apply Four.set0 | apply Four.set1 | apply Four.set2 | apply Four.set3), by repeat (first | exact Only.refl _ _ | apply Only.drewN | apply Only.drew | apply Only.setCell)⟩

end Go.Proofs.Qxb6600190aMods
