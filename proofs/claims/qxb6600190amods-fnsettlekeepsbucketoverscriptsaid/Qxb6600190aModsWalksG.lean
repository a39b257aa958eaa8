/- The walk of 'sort4': the place s of the odd value, the place r to which the sort brings it: sixteen ways. -/
import Derived.Test.Qxb6600190aModsWalksD
namespace Go.Proofs.Qxb6600190aMods
open Go.RowKit
set_option linter.unusedVariables false

set_option maxHeartbeats 3200000 in
theorem sort_0_0 (b : Nat) (v o0 o1 o2 : Int) (g1 : o0 ≤ o1) (g2 : o1 ≤ o2) (t0 : ¬ o0 < v) (t1 : ¬ o1 < v) (t2 : ¬ o2 < v) (w : World) (hF : Four b w v o0 o1 o2) :
    Calls Trym.prog 19 #[.pointer (some ⟨b, 0, none⟩)] w fun e w' => e = .returned (.tuple #[]) ∧ Four b w' v o0 o1 o2 ∧ Only b w w' := by
  have g3 : o0 ≤ o2 := by omega
  go_enter Trym.func19, Trym.ntmps19
  go_wp2
  go_loopw [2] (fun i wr => Only b w wr ∧ ((i = .int .i64 1 ∧ Four b wr v o0 o1 o2) ∨ (i = .int .i64 2 ∧ Four b wr v o0 o1 o2) ∨ (i = .int .i64 3 ∧ Four b wr v o0 o1 o2) ∨ (i = .int .i64 4 ∧ Four b wr v o0 o1 o2))) (fun i _ => 4 - (intOf i).toNat)
  case atStart => exact ⟨Only.refl _ _, .inl ⟨rfl, hF⟩⟩
  case round =>
    clear hF
    obtain ⟨hO, ⟨rfl, hF⟩ | ⟨rfl, hF⟩ | ⟨rfl, hF⟩ | ⟨rfl, hF⟩⟩ := hrel
    · go_wp2
      go_loopw [3] (fun j wr => Only b w wr ∧ ((j = .int .i64 1 ∧ Four b wr v o0 o1 o2))) (fun j _ => (intOf j).toNat)
      case atStart => exact ⟨hO, ⟨rfl, hF⟩⟩
      case round =>
        clear hF hO
        obtain ⟨hO, ⟨rfl, hF⟩⟩ := hrel
        · have HF := hF
          obtain ⟨c0, c1, c2, c3, fz⟩ := hF
          go_wp2
          go_quiet (fail)
          go_wp2
          go_roundw
          case rel => exact ⟨by repeat (first | exact hO | apply Only.drewN | apply Only.drew | apply Only.setCell), .inr (.inl ⟨rfl, by repeat (first | exact HF | apply Four.drewN | apply Four.drew | apply Four.set0 | apply Four.set1 | apply Four.set2 | apply Four.set3)⟩)⟩
          case measure => simp [intOf]
    · go_wp2
      go_loopw [3] (fun j wr => Only b w wr ∧ ((j = .int .i64 2 ∧ Four b wr v o0 o1 o2))) (fun j _ => (intOf j).toNat)
      case atStart => exact ⟨hO, ⟨rfl, hF⟩⟩
      case round =>
        clear hF hO
        obtain ⟨hO, ⟨rfl, hF⟩⟩ := hrel
        · have HF := hF
          obtain ⟨c0, c1, c2, c3, fz⟩ := hF
          go_wp2
          go_quiet (fail)
          go_wp2
          go_roundw
          case rel => exact ⟨by repeat (first | exact hO | apply Only.drewN | apply Only.drew | apply Only.setCell), .inr (.inr (.inl ⟨rfl, by repeat (first | exact HF | apply Four.drewN | apply Four.drew | apply Four.set0 | apply Four.set1 | apply Four.set2 | apply Four.set3)⟩))⟩
          case measure => simp [intOf]
    · go_wp2
      go_loopw [3] (fun j wr => Only b w wr ∧ ((j = .int .i64 3 ∧ Four b wr v o0 o1 o2))) (fun j _ => (intOf j).toNat)
      case atStart => exact ⟨hO, ⟨rfl, hF⟩⟩
      case round =>
        clear hF hO
        obtain ⟨hO, ⟨rfl, hF⟩⟩ := hrel
        · have HF := hF
          obtain ⟨c0, c1, c2, c3, fz⟩ := hF
          go_wp2
          go_quiet (fail)
          go_wp2
          go_roundw
          case rel => exact ⟨by repeat (first | exact hO | apply Only.drewN | apply Only.drew | apply Only.setCell), .inr (.inr (.inr ⟨rfl, by repeat (first | exact HF | apply Four.drewN | apply Four.drew | apply Four.set0 | apply Four.set1 | apply Four.set2 | apply Four.set3)⟩))⟩
          case measure => simp [intOf]
    · go_wp2
      go_end0
      exact ⟨rfl, hF, hO⟩

set_option maxHeartbeats 3200000 in
theorem sort_0_1 (b : Nat) (v o0 o1 o2 : Int) (g1 : o0 ≤ o1) (g2 : o1 ≤ o2) (t0 : o0 < v) (t1 : ¬ o1 < v) (t2 : ¬ o2 < v) (w : World) (hF : Four b w v o0 o1 o2) :
    Calls Trym.prog 19 #[.pointer (some ⟨b, 0, none⟩)] w fun e w' => e = .returned (.tuple #[]) ∧ Four b w' o0 v o1 o2 ∧ Only b w w' := by
  have g3 : o0 ≤ o2 := by omega
  go_enter Trym.func19, Trym.ntmps19
  go_wp2
  go_loopw [2] (fun i wr => Only b w wr ∧ ((i = .int .i64 1 ∧ Four b wr v o0 o1 o2) ∨ (i = .int .i64 2 ∧ Four b wr o0 v o1 o2) ∨ (i = .int .i64 3 ∧ Four b wr o0 v o1 o2) ∨ (i = .int .i64 4 ∧ Four b wr o0 v o1 o2))) (fun i _ => 4 - (intOf i).toNat)
  case atStart => exact ⟨Only.refl _ _, .inl ⟨rfl, hF⟩⟩
  case round =>
    clear hF
    obtain ⟨hO, ⟨rfl, hF⟩ | ⟨rfl, hF⟩ | ⟨rfl, hF⟩ | ⟨rfl, hF⟩⟩ := hrel
    · go_wp2
      go_loopw [3] (fun j wr => Only b w wr ∧ ((j = .int .i64 1 ∧ Four b wr v o0 o1 o2) ∨ (j = .int .i64 0 ∧ Four b wr o0 v o1 o2))) (fun j _ => (intOf j).toNat)
      case atStart => exact ⟨hO, .inl ⟨rfl, hF⟩⟩
      case round =>
        clear hF hO
        obtain ⟨hO, ⟨rfl, hF⟩ | ⟨rfl, hF⟩⟩ := hrel
        · have HF := hF
          obtain ⟨c0, c1, c2, c3, fz⟩ := hF
          go_wp2
          go_quiet (fail)
          go_wp2
          go_region
          go_wp2
          go_roundw
          case rel => exact ⟨by repeat (first | exact hO | apply Only.drewN | apply Only.drew | apply Only.setCell), .inr ⟨rfl, by repeat (first | exact HF | apply Four.drewN | apply Four.drew | apply Four.set0 | apply Four.set1 | apply Four.set2 | apply Four.set3)⟩⟩
          case measure => simp [intOf]
        · have HF := hF
          obtain ⟨c0, c1, c2, c3, fz⟩ := hF
          go_wp2
          go_quiet (fail)
          go_wp2
          go_roundw
          case rel => exact ⟨by repeat (first | exact hO | apply Only.drewN | apply Only.drew | apply Only.setCell), .inr (.inl ⟨rfl, by repeat (first | exact HF | apply Four.drewN | apply Four.drew | apply Four.set0 | apply Four.set1 | apply Four.set2 | apply Four.set3)⟩)⟩
          case measure => simp [intOf]
    · go_wp2
      go_loopw [3] (fun j wr => Only b w wr ∧ ((j = .int .i64 2 ∧ Four b wr o0 v o1 o2))) (fun j _ => (intOf j).toNat)
      case atStart => exact ⟨hO, ⟨rfl, hF⟩⟩
      case round =>
        clear hF hO
        obtain ⟨hO, ⟨rfl, hF⟩⟩ := hrel
        · have HF := hF
          obtain ⟨c0, c1, c2, c3, fz⟩ := hF
          go_wp2
          go_quiet (fail)
          go_wp2
          go_roundw
          case rel => exact ⟨by repeat (first | exact hO | apply Only.drewN | apply Only.drew | apply Only.setCell), .inr (.inr (.inl ⟨rfl, by repeat (first | exact HF | apply Four.drewN | apply Four.drew | apply Four.set0 | apply Four.set1 | apply Four.set2 | apply Four.set3)⟩))⟩
          case measure => simp [intOf]
    · go_wp2
      go_loopw [3] (fun j wr => Only b w wr ∧ ((j = .int .i64 3 ∧ Four b wr o0 v o1 o2))) (fun j _ => (intOf j).toNat)
      case atStart => exact ⟨hO, ⟨rfl, hF⟩⟩
      case round =>
        clear hF hO
        obtain ⟨hO, ⟨rfl, hF⟩⟩ := hrel
        · have HF := hF
          obtain ⟨c0, c1, c2, c3, fz⟩ := hF
          go_wp2
          go_quiet (fail)
          go_wp2
          go_roundw
          case rel => exact ⟨by repeat (first | exact hO | apply Only.drewN | apply Only.drew | apply Only.setCell), .inr (.inr (.inr ⟨rfl, by repeat (first | exact HF | apply Four.drewN | apply Four.drew | apply Four.set0 | apply Four.set1 | apply Four.set2 | apply Four.set3)⟩))⟩
          case measure => simp [intOf]
    · go_wp2
      go_end0
      exact ⟨rfl, hF, hO⟩

set_option maxHeartbeats 3200000 in
theorem sort_0_2 (b : Nat) (v o0 o1 o2 : Int) (g1 : o0 ≤ o1) (g2 : o1 ≤ o2) (t0 : o0 < v) (t1 : o1 < v) (t2 : ¬ o2 < v) (w : World) (hF : Four b w v o0 o1 o2) :
    Calls Trym.prog 19 #[.pointer (some ⟨b, 0, none⟩)] w fun e w' => e = .returned (.tuple #[]) ∧ Four b w' o0 o1 v o2 ∧ Only b w w' := by
  have g3 : o0 ≤ o2 := by omega
  go_enter Trym.func19, Trym.ntmps19
  go_wp2
  go_loopw [2] (fun i wr => Only b w wr ∧ ((i = .int .i64 1 ∧ Four b wr v o0 o1 o2) ∨ (i = .int .i64 2 ∧ Four b wr o0 v o1 o2) ∨ (i = .int .i64 3 ∧ Four b wr o0 o1 v o2) ∨ (i = .int .i64 4 ∧ Four b wr o0 o1 v o2))) (fun i _ => 4 - (intOf i).toNat)
  case atStart => exact ⟨Only.refl _ _, .inl ⟨rfl, hF⟩⟩
  case round =>
    clear hF
    obtain ⟨hO, ⟨rfl, hF⟩ | ⟨rfl, hF⟩ | ⟨rfl, hF⟩ | ⟨rfl, hF⟩⟩ := hrel
    · go_wp2
      go_loopw [3] (fun j wr => Only b w wr ∧ ((j = .int .i64 1 ∧ Four b wr v o0 o1 o2) ∨ (j = .int .i64 0 ∧ Four b wr o0 v o1 o2))) (fun j _ => (intOf j).toNat)
      case atStart => exact ⟨hO, .inl ⟨rfl, hF⟩⟩
      case round =>
        clear hF hO
        obtain ⟨hO, ⟨rfl, hF⟩ | ⟨rfl, hF⟩⟩ := hrel
        · have HF := hF
          obtain ⟨c0, c1, c2, c3, fz⟩ := hF
          go_wp2
          go_quiet (fail)
          go_wp2
          go_region
          go_wp2
          go_roundw
          case rel => exact ⟨by repeat (first | exact hO | apply Only.drewN | apply Only.drew | apply Only.setCell), .inr ⟨rfl, by repeat (first | exact HF | apply Four.drewN | apply Four.drew | apply Four.set0 | apply Four.set1 | apply Four.set2 | apply Four.set3)⟩⟩
          case measure => simp [intOf]
        · have HF := hF
          obtain ⟨c0, c1, c2, c3, fz⟩ := hF
          go_wp2
          go_quiet (fail)
          go_wp2
          go_roundw
          case rel => exact ⟨by repeat (first | exact hO | apply Only.drewN | apply Only.drew | apply Only.setCell), .inr (.inl ⟨rfl, by repeat (first | exact HF | apply Four.drewN | apply Four.drew | apply Four.set0 | apply Four.set1 | apply Four.set2 | apply Four.set3)⟩)⟩
          case measure => simp [intOf]
    · go_wp2
      go_loopw [3] (fun j wr => Only b w wr ∧ ((j = .int .i64 2 ∧ Four b wr o0 v o1 o2) ∨ (j = .int .i64 1 ∧ Four b wr o0 o1 v o2))) (fun j _ => (intOf j).toNat)
      case atStart => exact ⟨hO, .inl ⟨rfl, hF⟩⟩
      case round =>
        clear hF hO
        obtain ⟨hO, ⟨rfl, hF⟩ | ⟨rfl, hF⟩⟩ := hrel
        · have HF := hF
          obtain ⟨c0, c1, c2, c3, fz⟩ := hF
          go_wp2
          go_quiet (fail)
          go_wp2
          go_region
          go_wp2
          go_roundw
          case rel => exact ⟨by repeat (first | exact hO | apply Only.drewN | apply Only.drew | apply Only.setCell), .inr ⟨rfl, by repeat (first | exact HF | apply Four.drewN | apply Four.drew | apply Four.set0 | apply Four.set1 | apply Four.set2 | apply Four.set3)⟩⟩
          case measure => simp [intOf]
        · have HF := hF
          obtain ⟨c0, c1, c2, c3, fz⟩ := hF
          go_wp2
          go_quiet (fail)
          go_wp2
          go_roundw
          case rel => exact ⟨by repeat (first | exact hO | apply Only.drewN | apply Only.drew | apply Only.setCell), .inr (.inr (.inl ⟨rfl, by repeat (first | exact HF | apply Four.drewN | apply Four.drew | apply Four.set0 | apply Four.set1 | apply Four.set2 | apply Four.set3)⟩))⟩
          case measure => simp [intOf]
    · go_wp2
      go_loopw [3] (fun j wr => Only b w wr ∧ ((j = .int .i64 3 ∧ Four b wr o0 o1 v o2))) (fun j _ => (intOf j).toNat)
      case atStart => exact ⟨hO, ⟨rfl, hF⟩⟩
      case round =>
        clear hF hO
        obtain ⟨hO, ⟨rfl, hF⟩⟩ := hrel
        · have HF := hF
          obtain ⟨c0, c1, c2, c3, fz⟩ := hF
          go_wp2
          go_quiet (fail)
          go_wp2
          go_roundw
          case rel => exact ⟨by repeat (first | exact hO | apply Only.drewN | apply Only.drew | apply Only.setCell), .inr (.inr (.inr ⟨rfl, by repeat (first | exact HF | apply Four.drewN | apply Four.drew | apply Four.set0 | apply Four.set1 | apply Four.set2 | apply Four.set3)⟩))⟩
          case measure => simp [intOf]
    · go_wp2
      go_end0
      exact ⟨rfl, hF, hO⟩

set_option maxHeartbeats 3200000 in
theorem sort_0_3 (b : Nat) (v o0 o1 o2 : Int) (g1 : o0 ≤ o1) (g2 : o1 ≤ o2) (t0 : o0 < v) (t1 : o1 < v) (t2 : o2 < v) (w : World) (hF : Four b w v o0 o1 o2) :
    Calls Trym.prog 19 #[.pointer (some ⟨b, 0, none⟩)] w fun e w' => e = .returned (.tuple #[]) ∧ Four b w' o0 o1 o2 v ∧ Only b w w' := by
  have g3 : o0 ≤ o2 := by omega
  go_enter Trym.func19, Trym.ntmps19
  go_wp2
  go_loopw [2] (fun i wr => Only b w wr ∧ ((i = .int .i64 1 ∧ Four b wr v o0 o1 o2) ∨ (i = .int .i64 2 ∧ Four b wr o0 v o1 o2) ∨ (i = .int .i64 3 ∧ Four b wr o0 o1 v o2) ∨ (i = .int .i64 4 ∧ Four b wr o0 o1 o2 v))) (fun i _ => 4 - (intOf i).toNat)
  case atStart => exact ⟨Only.refl _ _, .inl ⟨rfl, hF⟩⟩
  case round =>
    clear hF
    obtain ⟨hO, ⟨rfl, hF⟩ | ⟨rfl, hF⟩ | ⟨rfl, hF⟩ | ⟨rfl, hF⟩⟩ := hrel
    · go_wp2
      go_loopw [3] (fun j wr => Only b w wr ∧ ((j = .int .i64 1 ∧ Four b wr v o0 o1 o2) ∨ (j = .int .i64 0 ∧ Four b wr o0 v o1 o2))) (fun j _ => (intOf j).toNat)
      case atStart => exact ⟨hO, .inl ⟨rfl, hF⟩⟩
      case round =>
        clear hF hO
        obtain ⟨hO, ⟨rfl, hF⟩ | ⟨rfl, hF⟩⟩ := hrel
        · have HF := hF
          obtain ⟨c0, c1, c2, c3, fz⟩ := hF
          go_wp2
          go_quiet (fail)
          go_wp2
          go_region
          go_wp2
          go_roundw
          case rel => exact ⟨by repeat (first | exact hO | apply Only.drewN | apply Only.drew | apply Only.setCell), .inr ⟨rfl, by repeat (first | exact HF | apply Four.drewN | apply Four.drew | apply Four.set0 | apply Four.set1 | apply Four.set2 | apply Four.set3)⟩⟩
          case measure => simp [intOf]
        · have HF := hF
          obtain ⟨c0, c1, c2, c3, fz⟩ := hF
          go_wp2
          go_quiet (fail)
          go_wp2
          go_roundw
          case rel => exact ⟨by repeat (first | exact hO | apply Only.drewN | apply Only.drew | apply Only.setCell), .inr (.inl ⟨rfl, by repeat (first | exact HF | apply Four.drewN | apply Four.drew | apply Four.set0 | apply Four.set1 | apply Four.set2 | apply Four.set3)⟩)⟩
          case measure => simp [intOf]
    · go_wp2
      go_loopw [3] (fun j wr => Only b w wr ∧ ((j = .int .i64 2 ∧ Four b wr o0 v o1 o2) ∨ (j = .int .i64 1 ∧ Four b wr o0 o1 v o2))) (fun j _ => (intOf j).toNat)
      case atStart => exact ⟨hO, .inl ⟨rfl, hF⟩⟩
      case round =>
        clear hF hO
        obtain ⟨hO, ⟨rfl, hF⟩ | ⟨rfl, hF⟩⟩ := hrel
        · have HF := hF
          obtain ⟨c0, c1, c2, c3, fz⟩ := hF
          go_wp2
          go_quiet (fail)
          go_wp2
          go_region
          go_wp2
          go_roundw
          case rel => exact ⟨by repeat (first | exact hO | apply Only.drewN | apply Only.drew | apply Only.setCell), .inr ⟨rfl, by repeat (first | exact HF | apply Four.drewN | apply Four.drew | apply Four.set0 | apply Four.set1 | apply Four.set2 | apply Four.set3)⟩⟩
          case measure => simp [intOf]
        · have HF := hF
          obtain ⟨c0, c1, c2, c3, fz⟩ := hF
          go_wp2
          go_quiet (fail)
          go_wp2
          go_roundw
          case rel => exact ⟨by repeat (first | exact hO | apply Only.drewN | apply Only.drew | apply Only.setCell), .inr (.inr (.inl ⟨rfl, by repeat (first | exact HF | apply Four.drewN | apply Four.drew | apply Four.set0 | apply Four.set1 | apply Four.set2 | apply Four.set3)⟩))⟩
          case measure => simp [intOf]
    · go_wp2
      go_loopw [3] (fun j wr => Only b w wr ∧ ((j = .int .i64 3 ∧ Four b wr o0 o1 v o2) ∨ (j = .int .i64 2 ∧ Four b wr o0 o1 o2 v))) (fun j _ => (intOf j).toNat)
      case atStart => exact ⟨hO, .inl ⟨rfl, hF⟩⟩
      case round =>
        clear hF hO
        obtain ⟨hO, ⟨rfl, hF⟩ | ⟨rfl, hF⟩⟩ := hrel
        · have HF := hF
          obtain ⟨c0, c1, c2, c3, fz⟩ := hF
          go_wp2
          go_quiet (fail)
          go_wp2
          go_region
          go_wp2
          go_roundw
          case rel => exact ⟨by repeat (first | exact hO | apply Only.drewN | apply Only.drew | apply Only.setCell), .inr ⟨rfl, by repeat (first | exact HF | apply Four.drewN | apply Four.drew | apply Four.set0 | apply Four.set1 | apply Four.set2 | apply Four.set3)⟩⟩
          case measure => simp [intOf]
        · have HF := hF
          obtain ⟨c0, c1, c2, c3, fz⟩ := hF
          go_wp2
          go_quiet (fail)
          go_wp2
          go_roundw
          case rel => exact ⟨by repeat (first | exact hO | apply Only.drewN | apply Only.drew | apply Only.setCell), .inr (.inr (.inr ⟨rfl, by repeat (first | exact HF | apply Four.drewN | apply Four.drew | apply Four.set0 | apply Four.set1 | apply Four.set2 | apply Four.set3)⟩))⟩
          case measure => simp [intOf]
    · go_wp2
      go_end0
      exact ⟨rfl, hF, hO⟩

set_option maxHeartbeats 3200000 in
theorem sort_1_0 (b : Nat) (v o0 o1 o2 : Int) (g1 : o0 ≤ o1) (g2 : o1 ≤ o2) (t0 : ¬ o0 ≤ v) (t1 : ¬ o1 < v) (t2 : ¬ o2 < v) (w : World) (hF : Four b w o0 v o1 o2) :
    Calls Trym.prog 19 #[.pointer (some ⟨b, 0, none⟩)] w fun e w' => e = .returned (.tuple #[]) ∧ Four b w' v o0 o1 o2 ∧ Only b w w' := by
  have g3 : o0 ≤ o2 := by omega
  go_enter Trym.func19, Trym.ntmps19
  go_wp2
  go_loopw [2] (fun i wr => Only b w wr ∧ ((i = .int .i64 1 ∧ Four b wr o0 v o1 o2) ∨ (i = .int .i64 2 ∧ Four b wr v o0 o1 o2) ∨ (i = .int .i64 3 ∧ Four b wr v o0 o1 o2) ∨ (i = .int .i64 4 ∧ Four b wr v o0 o1 o2))) (fun i _ => 4 - (intOf i).toNat)
  case atStart => exact ⟨Only.refl _ _, .inl ⟨rfl, hF⟩⟩
  case round =>
    clear hF
    obtain ⟨hO, ⟨rfl, hF⟩ | ⟨rfl, hF⟩ | ⟨rfl, hF⟩ | ⟨rfl, hF⟩⟩ := hrel
    · go_wp2
      go_loopw [3] (fun j wr => Only b w wr ∧ ((j = .int .i64 1 ∧ Four b wr o0 v o1 o2) ∨ (j = .int .i64 0 ∧ Four b wr v o0 o1 o2))) (fun j _ => (intOf j).toNat)
      case atStart => exact ⟨hO, .inl ⟨rfl, hF⟩⟩
      case round =>
        clear hF hO
        obtain ⟨hO, ⟨rfl, hF⟩ | ⟨rfl, hF⟩⟩ := hrel
        · have HF := hF
          obtain ⟨c0, c1, c2, c3, fz⟩ := hF
          go_wp2
          go_quiet (fail)
          go_wp2
          go_region
          go_wp2
          go_roundw
          case rel => exact ⟨by repeat (first | exact hO | apply Only.drewN | apply Only.drew | apply Only.setCell), .inr ⟨rfl, by repeat (first | exact HF | apply Four.drewN | apply Four.drew | apply Four.set0 | apply Four.set1 | apply Four.set2 | apply Four.set3)⟩⟩
          case measure => simp [intOf]
        · have HF := hF
          obtain ⟨c0, c1, c2, c3, fz⟩ := hF
          go_wp2
          go_quiet (fail)
          go_wp2
          go_roundw
          case rel => exact ⟨by repeat (first | exact hO | apply Only.drewN | apply Only.drew | apply Only.setCell), .inr (.inl ⟨rfl, by repeat (first | exact HF | apply Four.drewN | apply Four.drew | apply Four.set0 | apply Four.set1 | apply Four.set2 | apply Four.set3)⟩)⟩
          case measure => simp [intOf]
    · go_wp2
      go_loopw [3] (fun j wr => Only b w wr ∧ ((j = .int .i64 2 ∧ Four b wr v o0 o1 o2))) (fun j _ => (intOf j).toNat)
      case atStart => exact ⟨hO, ⟨rfl, hF⟩⟩
      case round =>
        clear hF hO
        obtain ⟨hO, ⟨rfl, hF⟩⟩ := hrel
        · have HF := hF
          obtain ⟨c0, c1, c2, c3, fz⟩ := hF
          go_wp2
          go_quiet (fail)
          go_wp2
          go_roundw
          case rel => exact ⟨by repeat (first | exact hO | apply Only.drewN | apply Only.drew | apply Only.setCell), .inr (.inr (.inl ⟨rfl, by repeat (first | exact HF | apply Four.drewN | apply Four.drew | apply Four.set0 | apply Four.set1 | apply Four.set2 | apply Four.set3)⟩))⟩
          case measure => simp [intOf]
    · go_wp2
      go_loopw [3] (fun j wr => Only b w wr ∧ ((j = .int .i64 3 ∧ Four b wr v o0 o1 o2))) (fun j _ => (intOf j).toNat)
      case atStart => exact ⟨hO, ⟨rfl, hF⟩⟩
      case round =>
        clear hF hO
        obtain ⟨hO, ⟨rfl, hF⟩⟩ := hrel
        · have HF := hF
          obtain ⟨c0, c1, c2, c3, fz⟩ := hF
          go_wp2
          go_quiet (fail)
          go_wp2
          go_roundw
          case rel => exact ⟨by repeat (first | exact hO | apply Only.drewN | apply Only.drew | apply Only.setCell), .inr (.inr (.inr ⟨rfl, by repeat (first | exact HF | apply Four.drewN | apply Four.drew | apply Four.set0 | apply Four.set1 | apply Four.set2 | apply Four.set3)⟩))⟩
          case measure => simp [intOf]
    · go_wp2
      go_end0
      exact ⟨rfl, hF, hO⟩

set_option maxHeartbeats 3200000 in
theorem sort_1_1 (b : Nat) (v o0 o1 o2 : Int) (g1 : o0 ≤ o1) (g2 : o1 ≤ o2) (t0 : o0 ≤ v) (t1 : ¬ o1 < v) (t2 : ¬ o2 < v) (w : World) (hF : Four b w o0 v o1 o2) :
    Calls Trym.prog 19 #[.pointer (some ⟨b, 0, none⟩)] w fun e w' => e = .returned (.tuple #[]) ∧ Four b w' o0 v o1 o2 ∧ Only b w w' := by
  have g3 : o0 ≤ o2 := by omega
  go_enter Trym.func19, Trym.ntmps19
  go_wp2
  go_loopw [2] (fun i wr => Only b w wr ∧ ((i = .int .i64 1 ∧ Four b wr o0 v o1 o2) ∨ (i = .int .i64 2 ∧ Four b wr o0 v o1 o2) ∨ (i = .int .i64 3 ∧ Four b wr o0 v o1 o2) ∨ (i = .int .i64 4 ∧ Four b wr o0 v o1 o2))) (fun i _ => 4 - (intOf i).toNat)
  case atStart => exact ⟨Only.refl _ _, .inl ⟨rfl, hF⟩⟩
  case round =>
    clear hF
    obtain ⟨hO, ⟨rfl, hF⟩ | ⟨rfl, hF⟩ | ⟨rfl, hF⟩ | ⟨rfl, hF⟩⟩ := hrel
    · go_wp2
      go_loopw [3] (fun j wr => Only b w wr ∧ ((j = .int .i64 1 ∧ Four b wr o0 v o1 o2))) (fun j _ => (intOf j).toNat)
      case atStart => exact ⟨hO, ⟨rfl, hF⟩⟩
      case round =>
        clear hF hO
        obtain ⟨hO, ⟨rfl, hF⟩⟩ := hrel
        · have HF := hF
          obtain ⟨c0, c1, c2, c3, fz⟩ := hF
          go_wp2
          go_quiet (fail)
          go_wp2
          go_roundw
          case rel => exact ⟨by repeat (first | exact hO | apply Only.drewN | apply Only.drew | apply Only.setCell), .inr (.inl ⟨rfl, by repeat (first | exact HF | apply Four.drewN | apply Four.drew | apply Four.set0 | apply Four.set1 | apply Four.set2 | apply Four.set3)⟩)⟩
          case measure => simp [intOf]
    · go_wp2
      go_loopw [3] (fun j wr => Only b w wr ∧ ((j = .int .i64 2 ∧ Four b wr o0 v o1 o2))) (fun j _ => (intOf j).toNat)
      case atStart => exact ⟨hO, ⟨rfl, hF⟩⟩
      case round =>
        clear hF hO
        obtain ⟨hO, ⟨rfl, hF⟩⟩ := hrel
        · have HF := hF
          obtain ⟨c0, c1, c2, c3, fz⟩ := hF
          go_wp2
          go_quiet (fail)
          go_wp2
          go_roundw
          case rel => exact ⟨by repeat (first | exact hO | apply Only.drewN | apply Only.drew | apply Only.setCell), .inr (.inr (.inl ⟨rfl, by repeat (first | exact HF | apply Four.drewN | apply Four.drew | apply Four.set0 | apply Four.set1 | apply Four.set2 | apply Four.set3)⟩))⟩
          case measure => simp [intOf]
    · go_wp2
      go_loopw [3] (fun j wr => Only b w wr ∧ ((j = .int .i64 3 ∧ Four b wr o0 v o1 o2))) (fun j _ => (intOf j).toNat)
      case atStart => exact ⟨hO, ⟨rfl, hF⟩⟩
      case round =>
        clear hF hO
        obtain ⟨hO, ⟨rfl, hF⟩⟩ := hrel
        · have HF := hF
          obtain ⟨c0, c1, c2, c3, fz⟩ := hF
          go_wp2
          go_quiet (fail)
          go_wp2
          go_roundw
          case rel => exact ⟨by repeat (first | exact hO | apply Only.drewN | apply Only.drew | apply Only.setCell), .inr (.inr (.inr ⟨rfl, by repeat (first | exact HF | apply Four.drewN | apply Four.drew | apply Four.set0 | apply Four.set1 | apply Four.set2 | apply Four.set3)⟩))⟩
          case measure => simp [intOf]
    · go_wp2
      go_end0
      exact ⟨rfl, hF, hO⟩

set_option maxHeartbeats 3200000 in
theorem sort_1_2 (b : Nat) (v o0 o1 o2 : Int) (g1 : o0 ≤ o1) (g2 : o1 ≤ o2) (t0 : o0 ≤ v) (t1 : o1 < v) (t2 : ¬ o2 < v) (w : World) (hF : Four b w o0 v o1 o2) :
    Calls Trym.prog 19 #[.pointer (some ⟨b, 0, none⟩)] w fun e w' => e = .returned (.tuple #[]) ∧ Four b w' o0 o1 v o2 ∧ Only b w w' := by
  have g3 : o0 ≤ o2 := by omega
  go_enter Trym.func19, Trym.ntmps19
  go_wp2
  go_loopw [2] (fun i wr => Only b w wr ∧ ((i = .int .i64 1 ∧ Four b wr o0 v o1 o2) ∨ (i = .int .i64 2 ∧ Four b wr o0 v o1 o2) ∨ (i = .int .i64 3 ∧ Four b wr o0 o1 v o2) ∨ (i = .int .i64 4 ∧ Four b wr o0 o1 v o2))) (fun i _ => 4 - (intOf i).toNat)
  case atStart => exact ⟨Only.refl _ _, .inl ⟨rfl, hF⟩⟩
  case round =>
    clear hF
    obtain ⟨hO, ⟨rfl, hF⟩ | ⟨rfl, hF⟩ | ⟨rfl, hF⟩ | ⟨rfl, hF⟩⟩ := hrel
    · go_wp2
      go_loopw [3] (fun j wr => Only b w wr ∧ ((j = .int .i64 1 ∧ Four b wr o0 v o1 o2))) (fun j _ => (intOf j).toNat)
      case atStart => exact ⟨hO, ⟨rfl, hF⟩⟩
      case round =>
        clear hF hO
        obtain ⟨hO, ⟨rfl, hF⟩⟩ := hrel
        · have HF := hF
          obtain ⟨c0, c1, c2, c3, fz⟩ := hF
          go_wp2
          go_quiet (fail)
          go_wp2
          go_roundw
          case rel => exact ⟨by repeat (first | exact hO | apply Only.drewN | apply Only.drew | apply Only.setCell), .inr (.inl ⟨rfl, by repeat (first | exact HF | apply Four.drewN | apply Four.drew | apply Four.set0 | apply Four.set1 | apply Four.set2 | apply Four.set3)⟩)⟩
          case measure => simp [intOf]
    · go_wp2
      go_loopw [3] (fun j wr => Only b w wr ∧ ((j = .int .i64 2 ∧ Four b wr o0 v o1 o2) ∨ (j = .int .i64 1 ∧ Four b wr o0 o1 v o2))) (fun j _ => (intOf j).toNat)
      case atStart => exact ⟨hO, .inl ⟨rfl, hF⟩⟩
      case round =>
        clear hF hO
        obtain ⟨hO, ⟨rfl, hF⟩ | ⟨rfl, hF⟩⟩ := hrel
        · have HF := hF
          obtain ⟨c0, c1, c2, c3, fz⟩ := hF
          go_wp2
          go_quiet (fail)
          go_wp2
          go_region
          go_wp2
          go_roundw
          case rel => exact ⟨by repeat (first | exact hO | apply Only.drewN | apply Only.drew | apply Only.setCell), .inr ⟨rfl, by repeat (first | exact HF | apply Four.drewN | apply Four.drew | apply Four.set0 | apply Four.set1 | apply Four.set2 | apply Four.set3)⟩⟩
          case measure => simp [intOf]
        · have HF := hF
          obtain ⟨c0, c1, c2, c3, fz⟩ := hF
          go_wp2
          go_quiet (fail)
          go_wp2
          go_roundw
          case rel => exact ⟨by repeat (first | exact hO | apply Only.drewN | apply Only.drew | apply Only.setCell), .inr (.inr (.inl ⟨rfl, by repeat (first | exact HF | apply Four.drewN | apply Four.drew | apply Four.set0 | apply Four.set1 | apply Four.set2 | apply Four.set3)⟩))⟩
          case measure => simp [intOf]
    · go_wp2
      go_loopw [3] (fun j wr => Only b w wr ∧ ((j = .int .i64 3 ∧ Four b wr o0 o1 v o2))) (fun j _ => (intOf j).toNat)
      case atStart => exact ⟨hO, ⟨rfl, hF⟩⟩
      case round =>
        clear hF hO
        obtain ⟨hO, ⟨rfl, hF⟩⟩ := hrel
        · have HF := hF
          obtain ⟨c0, c1, c2, c3, fz⟩ := hF
          go_wp2
          go_quiet (fail)
          go_wp2
          go_roundw
          case rel => exact ⟨by repeat (first | exact hO | apply Only.drewN | apply Only.drew | apply Only.setCell), .inr (.inr (.inr ⟨rfl, by repeat (first | exact HF | apply Four.drewN | apply Four.drew | apply Four.set0 | apply Four.set1 | apply Four.set2 | apply Four.set3)⟩))⟩
          case measure => simp [intOf]
    · go_wp2
      go_end0
      exact ⟨rfl, hF, hO⟩

set_option maxHeartbeats 3200000 in
theorem sort_1_3 (b : Nat) (v o0 o1 o2 : Int) (g1 : o0 ≤ o1) (g2 : o1 ≤ o2) (t0 : o0 ≤ v) (t1 : o1 < v) (t2 : o2 < v) (w : World) (hF : Four b w o0 v o1 o2) :
    Calls Trym.prog 19 #[.pointer (some ⟨b, 0, none⟩)] w fun e w' => e = .returned (.tuple #[]) ∧ Four b w' o0 o1 o2 v ∧ Only b w w' := by
  have g3 : o0 ≤ o2 := by omega
  go_enter Trym.func19, Trym.ntmps19
  go_wp2
  go_loopw [2] (fun i wr => Only b w wr ∧ ((i = .int .i64 1 ∧ Four b wr o0 v o1 o2) ∨ (i = .int .i64 2 ∧ Four b wr o0 v o1 o2) ∨ (i = .int .i64 3 ∧ Four b wr o0 o1 v o2) ∨ (i = .int .i64 4 ∧ Four b wr o0 o1 o2 v))) (fun i _ => 4 - (intOf i).toNat)
  case atStart => exact ⟨Only.refl _ _, .inl ⟨rfl, hF⟩⟩
  case round =>
    clear hF
    obtain ⟨hO, ⟨rfl, hF⟩ | ⟨rfl, hF⟩ | ⟨rfl, hF⟩ | ⟨rfl, hF⟩⟩ := hrel
    · go_wp2
      go_loopw [3] (fun j wr => Only b w wr ∧ ((j = .int .i64 1 ∧ Four b wr o0 v o1 o2))) (fun j _ => (intOf j).toNat)
      case atStart => exact ⟨hO, ⟨rfl, hF⟩⟩
      case round =>
        clear hF hO
        obtain ⟨hO, ⟨rfl, hF⟩⟩ := hrel
        · have HF := hF
          obtain ⟨c0, c1, c2, c3, fz⟩ := hF
          go_wp2
          go_quiet (fail)
          go_wp2
          go_roundw
          case rel => exact ⟨by repeat (first | exact hO | apply Only.drewN | apply Only.drew | apply Only.setCell), .inr (.inl ⟨rfl, by repeat (first | exact HF | apply Four.drewN | apply Four.drew | apply Four.set0 | apply Four.set1 | apply Four.set2 | apply Four.set3)⟩)⟩
          case measure => simp [intOf]
    · go_wp2
      go_loopw [3] (fun j wr => Only b w wr ∧ ((j = .int .i64 2 ∧ Four b wr o0 v o1 o2) ∨ (j = .int .i64 1 ∧ Four b wr o0 o1 v o2))) (fun j _ => (intOf j).toNat)
      case atStart => exact ⟨hO, .inl ⟨rfl, hF⟩⟩
      case round =>
        clear hF hO
        obtain ⟨hO, ⟨rfl, hF⟩ | ⟨rfl, hF⟩⟩ := hrel
        · have HF := hF
          obtain ⟨c0, c1, c2, c3, fz⟩ := hF
          go_wp2
          go_quiet (fail)
          go_wp2
          go_region
          go_wp2
          go_roundw
          case rel => exact ⟨by repeat (first | exact hO | apply Only.drewN | apply Only.drew | apply Only.setCell), .inr ⟨rfl, by repeat (first | exact HF | apply Four.drewN | apply Four.drew | apply Four.set0 | apply Four.set1 | apply Four.set2 | apply Four.set3)⟩⟩
          case measure => simp [intOf]
        · have HF := hF
          obtain ⟨c0, c1, c2, c3, fz⟩ := hF
          go_wp2
          go_quiet (fail)
          go_wp2
          go_roundw
          case rel => exact ⟨by repeat (first | exact hO | apply Only.drewN | apply Only.drew | apply Only.setCell), .inr (.inr (.inl ⟨rfl, by repeat (first | exact HF | apply Four.drewN | apply Four.drew | apply Four.set0 | apply Four.set1 | apply Four.set2 | apply Four.set3)⟩))⟩
          case measure => simp [intOf]
    · go_wp2
      go_loopw [3] (fun j wr => Only b w wr ∧ ((j = .int .i64 3 ∧ Four b wr o0 o1 v o2) ∨ (j = .int .i64 2 ∧ Four b wr o0 o1 o2 v))) (fun j _ => (intOf j).toNat)
      case atStart => exact ⟨hO, .inl ⟨rfl, hF⟩⟩
      case round =>
        clear hF hO
        obtain ⟨hO, ⟨rfl, hF⟩ | ⟨rfl, hF⟩⟩ := hrel
        · have HF := hF
          obtain ⟨c0, c1, c2, c3, fz⟩ := hF
          go_wp2
          go_quiet (fail)
          go_wp2
          go_region
          go_wp2
          go_roundw
          case rel => exact ⟨by repeat (first | exact hO | apply Only.drewN | apply Only.drew | apply Only.setCell), .inr ⟨rfl, by repeat (first | exact HF | apply Four.drewN | apply Four.drew | apply Four.set0 | apply Four.set1 | apply Four.set2 | apply Four.set3)⟩⟩
          case measure => simp [intOf]
        · have HF := hF
          obtain ⟨c0, c1, c2, c3, fz⟩ := hF
          go_wp2
          go_quiet (fail)
          go_wp2
          go_roundw
          case rel => exact ⟨by repeat (first | exact hO | apply Only.drewN | apply Only.drew | apply Only.setCell), .inr (.inr (.inr ⟨rfl, by repeat (first | exact HF | apply Four.drewN | apply Four.drew | apply Four.set0 | apply Four.set1 | apply Four.set2 | apply Four.set3)⟩))⟩
          case measure => simp [intOf]
    · go_wp2
      go_end0
      exact ⟨rfl, hF, hO⟩

set_option maxHeartbeats 3200000 in
theorem sort_2_0 (b : Nat) (v o0 o1 o2 : Int) (g1 : o0 ≤ o1) (g2 : o1 ≤ o2) (t0 : ¬ o0 ≤ v) (t1 : ¬ o1 ≤ v) (t2 : ¬ o2 < v) (w : World) (hF : Four b w o0 o1 v o2) :
    Calls Trym.prog 19 #[.pointer (some ⟨b, 0, none⟩)] w fun e w' => e = .returned (.tuple #[]) ∧ Four b w' v o0 o1 o2 ∧ Only b w w' := by
  have g3 : o0 ≤ o2 := by omega
  go_enter Trym.func19, Trym.ntmps19
  go_wp2
  go_loopw [2] (fun i wr => Only b w wr ∧ ((i = .int .i64 1 ∧ Four b wr o0 o1 v o2) ∨ (i = .int .i64 2 ∧ Four b wr o0 o1 v o2) ∨ (i = .int .i64 3 ∧ Four b wr v o0 o1 o2) ∨ (i = .int .i64 4 ∧ Four b wr v o0 o1 o2))) (fun i _ => 4 - (intOf i).toNat)
  case atStart => exact ⟨Only.refl _ _, .inl ⟨rfl, hF⟩⟩
  case round =>
    clear hF
    obtain ⟨hO, ⟨rfl, hF⟩ | ⟨rfl, hF⟩ | ⟨rfl, hF⟩ | ⟨rfl, hF⟩⟩ := hrel
    · go_wp2
      go_loopw [3] (fun j wr => Only b w wr ∧ ((j = .int .i64 1 ∧ Four b wr o0 o1 v o2))) (fun j _ => (intOf j).toNat)
      case atStart => exact ⟨hO, ⟨rfl, hF⟩⟩
      case round =>
        clear hF hO
        obtain ⟨hO, ⟨rfl, hF⟩⟩ := hrel
        · have HF := hF
          obtain ⟨c0, c1, c2, c3, fz⟩ := hF
          go_wp2
          go_quiet (fail)
          go_wp2
          go_roundw
          case rel => exact ⟨by repeat (first | exact hO | apply Only.drewN | apply Only.drew | apply Only.setCell), .inr (.inl ⟨rfl, by repeat (first | exact HF | apply Four.drewN | apply Four.drew | apply Four.set0 | apply Four.set1 | apply Four.set2 | apply Four.set3)⟩)⟩
          case measure => simp [intOf]
    · go_wp2
      go_loopw [3] (fun j wr => Only b w wr ∧ ((j = .int .i64 2 ∧ Four b wr o0 o1 v o2) ∨ (j = .int .i64 1 ∧ Four b wr o0 v o1 o2) ∨ (j = .int .i64 0 ∧ Four b wr v o0 o1 o2))) (fun j _ => (intOf j).toNat)
      case atStart => exact ⟨hO, .inl ⟨rfl, hF⟩⟩
      case round =>
        clear hF hO
        obtain ⟨hO, ⟨rfl, hF⟩ | ⟨rfl, hF⟩ | ⟨rfl, hF⟩⟩ := hrel
        · have HF := hF
          obtain ⟨c0, c1, c2, c3, fz⟩ := hF
          go_wp2
          go_quiet (fail)
          go_wp2
          go_region
          go_wp2
          go_roundw
          case rel => exact ⟨by repeat (first | exact hO | apply Only.drewN | apply Only.drew | apply Only.setCell), .inr (.inl ⟨rfl, by repeat (first | exact HF | apply Four.drewN | apply Four.drew | apply Four.set0 | apply Four.set1 | apply Four.set2 | apply Four.set3)⟩)⟩
          case measure => simp [intOf]
        · have HF := hF
          obtain ⟨c0, c1, c2, c3, fz⟩ := hF
          go_wp2
          go_quiet (fail)
          go_wp2
          go_region
          go_wp2
          go_roundw
          case rel => exact ⟨by repeat (first | exact hO | apply Only.drewN | apply Only.drew | apply Only.setCell), .inr (.inr ⟨rfl, by repeat (first | exact HF | apply Four.drewN | apply Four.drew | apply Four.set0 | apply Four.set1 | apply Four.set2 | apply Four.set3)⟩)⟩
          case measure => simp [intOf]
        · have HF := hF
          obtain ⟨c0, c1, c2, c3, fz⟩ := hF
          go_wp2
          go_quiet (fail)
          go_wp2
          go_roundw
          case rel => exact ⟨by repeat (first | exact hO | apply Only.drewN | apply Only.drew | apply Only.setCell), .inr (.inr (.inl ⟨rfl, by repeat (first | exact HF | apply Four.drewN | apply Four.drew | apply Four.set0 | apply Four.set1 | apply Four.set2 | apply Four.set3)⟩))⟩
          case measure => simp [intOf]
    · go_wp2
      go_loopw [3] (fun j wr => Only b w wr ∧ ((j = .int .i64 3 ∧ Four b wr v o0 o1 o2))) (fun j _ => (intOf j).toNat)
      case atStart => exact ⟨hO, ⟨rfl, hF⟩⟩
      case round =>
        clear hF hO
        obtain ⟨hO, ⟨rfl, hF⟩⟩ := hrel
        · have HF := hF
          obtain ⟨c0, c1, c2, c3, fz⟩ := hF
          go_wp2
          go_quiet (fail)
          go_wp2
          go_roundw
          case rel => exact ⟨by repeat (first | exact hO | apply Only.drewN | apply Only.drew | apply Only.setCell), .inr (.inr (.inr ⟨rfl, by repeat (first | exact HF | apply Four.drewN | apply Four.drew | apply Four.set0 | apply Four.set1 | apply Four.set2 | apply Four.set3)⟩))⟩
          case measure => simp [intOf]
    · go_wp2
      go_end0
      exact ⟨rfl, hF, hO⟩

set_option maxHeartbeats 3200000 in
theorem sort_2_1 (b : Nat) (v o0 o1 o2 : Int) (g1 : o0 ≤ o1) (g2 : o1 ≤ o2) (t0 : o0 ≤ v) (t1 : ¬ o1 ≤ v) (t2 : ¬ o2 < v) (w : World) (hF : Four b w o0 o1 v o2) :
    Calls Trym.prog 19 #[.pointer (some ⟨b, 0, none⟩)] w fun e w' => e = .returned (.tuple #[]) ∧ Four b w' o0 v o1 o2 ∧ Only b w w' := by
  have g3 : o0 ≤ o2 := by omega
  go_enter Trym.func19, Trym.ntmps19
  go_wp2
  go_loopw [2] (fun i wr => Only b w wr ∧ ((i = .int .i64 1 ∧ Four b wr o0 o1 v o2) ∨ (i = .int .i64 2 ∧ Four b wr o0 o1 v o2) ∨ (i = .int .i64 3 ∧ Four b wr o0 v o1 o2) ∨ (i = .int .i64 4 ∧ Four b wr o0 v o1 o2))) (fun i _ => 4 - (intOf i).toNat)
  case atStart => exact ⟨Only.refl _ _, .inl ⟨rfl, hF⟩⟩
  case round =>
    clear hF
    obtain ⟨hO, ⟨rfl, hF⟩ | ⟨rfl, hF⟩ | ⟨rfl, hF⟩ | ⟨rfl, hF⟩⟩ := hrel
    · go_wp2
      go_loopw [3] (fun j wr => Only b w wr ∧ ((j = .int .i64 1 ∧ Four b wr o0 o1 v o2))) (fun j _ => (intOf j).toNat)
      case atStart => exact ⟨hO, ⟨rfl, hF⟩⟩
      case round =>
        clear hF hO
        obtain ⟨hO, ⟨rfl, hF⟩⟩ := hrel
        · have HF := hF
          obtain ⟨c0, c1, c2, c3, fz⟩ := hF
          go_wp2
          go_quiet (fail)
          go_wp2
          go_roundw
          case rel => exact ⟨by repeat (first | exact hO | apply Only.drewN | apply Only.drew | apply Only.setCell), .inr (.inl ⟨rfl, by repeat (first | exact HF | apply Four.drewN | apply Four.drew | apply Four.set0 | apply Four.set1 | apply Four.set2 | apply Four.set3)⟩)⟩
          case measure => simp [intOf]
    · go_wp2
      go_loopw [3] (fun j wr => Only b w wr ∧ ((j = .int .i64 2 ∧ Four b wr o0 o1 v o2) ∨ (j = .int .i64 1 ∧ Four b wr o0 v o1 o2))) (fun j _ => (intOf j).toNat)
      case atStart => exact ⟨hO, .inl ⟨rfl, hF⟩⟩
      case round =>
        clear hF hO
        obtain ⟨hO, ⟨rfl, hF⟩ | ⟨rfl, hF⟩⟩ := hrel
        · have HF := hF
          obtain ⟨c0, c1, c2, c3, fz⟩ := hF
          go_wp2
          go_quiet (fail)
          go_wp2
          go_region
          go_wp2
          go_roundw
          case rel => exact ⟨by repeat (first | exact hO | apply Only.drewN | apply Only.drew | apply Only.setCell), .inr ⟨rfl, by repeat (first | exact HF | apply Four.drewN | apply Four.drew | apply Four.set0 | apply Four.set1 | apply Four.set2 | apply Four.set3)⟩⟩
          case measure => simp [intOf]
        · have HF := hF
          obtain ⟨c0, c1, c2, c3, fz⟩ := hF
          go_wp2
          go_quiet (fail)
          go_wp2
          go_roundw
          case rel => exact ⟨by repeat (first | exact hO | apply Only.drewN | apply Only.drew | apply Only.setCell), .inr (.inr (.inl ⟨rfl, by repeat (first | exact HF | apply Four.drewN | apply Four.drew | apply Four.set0 | apply Four.set1 | apply Four.set2 | apply Four.set3)⟩))⟩
          case measure => simp [intOf]
    · go_wp2
      go_loopw [3] (fun j wr => Only b w wr ∧ ((j = .int .i64 3 ∧ Four b wr o0 v o1 o2))) (fun j _ => (intOf j).toNat)
      case atStart => exact ⟨hO, ⟨rfl, hF⟩⟩
      case round =>
        clear hF hO
        obtain ⟨hO, ⟨rfl, hF⟩⟩ := hrel
        · have HF := hF
          obtain ⟨c0, c1, c2, c3, fz⟩ := hF
          go_wp2
          go_quiet (fail)
          go_wp2
          go_roundw
          case rel => exact ⟨by repeat (first | exact hO | apply Only.drewN | apply Only.drew | apply Only.setCell), .inr (.inr (.inr ⟨rfl, by repeat (first | exact HF | apply Four.drewN | apply Four.drew | apply Four.set0 | apply Four.set1 | apply Four.set2 | apply Four.set3)⟩))⟩
          case measure => simp [intOf]
    · go_wp2
      go_end0
      exact ⟨rfl, hF, hO⟩

set_option maxHeartbeats 3200000 in
theorem sort_2_2 (b : Nat) (v o0 o1 o2 : Int) (g1 : o0 ≤ o1) (g2 : o1 ≤ o2) (t0 : o0 ≤ v) (t1 : o1 ≤ v) (t2 : ¬ o2 < v) (w : World) (hF : Four b w o0 o1 v o2) :
    Calls Trym.prog 19 #[.pointer (some ⟨b, 0, none⟩)] w fun e w' => e = .returned (.tuple #[]) ∧ Four b w' o0 o1 v o2 ∧ Only b w w' := by
  have g3 : o0 ≤ o2 := by omega
  go_enter Trym.func19, Trym.ntmps19
  go_wp2
  go_loopw [2] (fun i wr => Only b w wr ∧ ((i = .int .i64 1 ∧ Four b wr o0 o1 v o2) ∨ (i = .int .i64 2 ∧ Four b wr o0 o1 v o2) ∨ (i = .int .i64 3 ∧ Four b wr o0 o1 v o2) ∨ (i = .int .i64 4 ∧ Four b wr o0 o1 v o2))) (fun i _ => 4 - (intOf i).toNat)
  case atStart => exact ⟨Only.refl _ _, .inl ⟨rfl, hF⟩⟩
  case round =>
    clear hF
    obtain ⟨hO, ⟨rfl, hF⟩ | ⟨rfl, hF⟩ | ⟨rfl, hF⟩ | ⟨rfl, hF⟩⟩ := hrel
    · go_wp2
      go_loopw [3] (fun j wr => Only b w wr ∧ ((j = .int .i64 1 ∧ Four b wr o0 o1 v o2))) (fun j _ => (intOf j).toNat)
      case atStart => exact ⟨hO, ⟨rfl, hF⟩⟩
      case round =>
        clear hF hO
        obtain ⟨hO, ⟨rfl, hF⟩⟩ := hrel
        · have HF := hF
          obtain ⟨c0, c1, c2, c3, fz⟩ := hF
          go_wp2
          go_quiet (fail)
          go_wp2
          go_roundw
          case rel => exact ⟨by repeat (first | exact hO | apply Only.drewN | apply Only.drew | apply Only.setCell), .inr (.inl ⟨rfl, by repeat (first | exact HF | apply Four.drewN | apply Four.drew | apply Four.set0 | apply Four.set1 | apply Four.set2 | apply Four.set3)⟩)⟩
          case measure => simp [intOf]
    · go_wp2
      go_loopw [3] (fun j wr => Only b w wr ∧ ((j = .int .i64 2 ∧ Four b wr o0 o1 v o2))) (fun j _ => (intOf j).toNat)
      case atStart => exact ⟨hO, ⟨rfl, hF⟩⟩
      case round =>
        clear hF hO
        obtain ⟨hO, ⟨rfl, hF⟩⟩ := hrel
        · have HF := hF
          obtain ⟨c0, c1, c2, c3, fz⟩ := hF
          go_wp2
          go_quiet (fail)
          go_wp2
          go_roundw
          case rel => exact ⟨by repeat (first | exact hO | apply Only.drewN | apply Only.drew | apply Only.setCell), .inr (.inr (.inl ⟨rfl, by repeat (first | exact HF | apply Four.drewN | apply Four.drew | apply Four.set0 | apply Four.set1 | apply Four.set2 | apply Four.set3)⟩))⟩
          case measure => simp [intOf]
    · go_wp2
      go_loopw [3] (fun j wr => Only b w wr ∧ ((j = .int .i64 3 ∧ Four b wr o0 o1 v o2))) (fun j _ => (intOf j).toNat)
      case atStart => exact ⟨hO, ⟨rfl, hF⟩⟩
      case round =>
        clear hF hO
        obtain ⟨hO, ⟨rfl, hF⟩⟩ := hrel
        · have HF := hF
          obtain ⟨c0, c1, c2, c3, fz⟩ := hF
          go_wp2
          go_quiet (fail)
          go_wp2
          go_roundw
          case rel => exact ⟨by repeat (first | exact hO | apply Only.drewN | apply Only.drew | apply Only.setCell), .inr (.inr (.inr ⟨rfl, by repeat (first | exact HF | apply Four.drewN | apply Four.drew | apply Four.set0 | apply Four.set1 | apply Four.set2 | apply Four.set3)⟩))⟩
          case measure => simp [intOf]
    · go_wp2
      go_end0
      exact ⟨rfl, hF, hO⟩

set_option maxHeartbeats 3200000 in
theorem sort_2_3 (b : Nat) (v o0 o1 o2 : Int) (g1 : o0 ≤ o1) (g2 : o1 ≤ o2) (t0 : o0 ≤ v) (t1 : o1 ≤ v) (t2 : o2 < v) (w : World) (hF : Four b w o0 o1 v o2) :
    Calls Trym.prog 19 #[.pointer (some ⟨b, 0, none⟩)] w fun e w' => e = .returned (.tuple #[]) ∧ Four b w' o0 o1 o2 v ∧ Only b w w' := by
  have g3 : o0 ≤ o2 := by omega
  go_enter Trym.func19, Trym.ntmps19
  go_wp2
  go_loopw [2] (fun i wr => Only b w wr ∧ ((i = .int .i64 1 ∧ Four b wr o0 o1 v o2) ∨ (i = .int .i64 2 ∧ Four b wr o0 o1 v o2) ∨ (i = .int .i64 3 ∧ Four b wr o0 o1 v o2) ∨ (i = .int .i64 4 ∧ Four b wr o0 o1 o2 v))) (fun i _ => 4 - (intOf i).toNat)
  case atStart => exact ⟨Only.refl _ _, .inl ⟨rfl, hF⟩⟩
  case round =>
    clear hF
    obtain ⟨hO, ⟨rfl, hF⟩ | ⟨rfl, hF⟩ | ⟨rfl, hF⟩ | ⟨rfl, hF⟩⟩ := hrel
    · go_wp2
      go_loopw [3] (fun j wr => Only b w wr ∧ ((j = .int .i64 1 ∧ Four b wr o0 o1 v o2))) (fun j _ => (intOf j).toNat)
      case atStart => exact ⟨hO, ⟨rfl, hF⟩⟩
      case round =>
        clear hF hO
        obtain ⟨hO, ⟨rfl, hF⟩⟩ := hrel
        · have HF := hF
          obtain ⟨c0, c1, c2, c3, fz⟩ := hF
          go_wp2
          go_quiet (fail)
          go_wp2
          go_roundw
          case rel => exact ⟨by repeat (first | exact hO | apply Only.drewN | apply Only.drew | apply Only.setCell), .inr (.inl ⟨rfl, by repeat (first | exact HF | apply Four.drewN | apply Four.drew | apply Four.set0 | apply Four.set1 | apply Four.set2 | apply Four.set3)⟩)⟩
          case measure => simp [intOf]
    · go_wp2
      go_loopw [3] (fun j wr => Only b w wr ∧ ((j = .int .i64 2 ∧ Four b wr o0 o1 v o2))) (fun j _ => (intOf j).toNat)
      case atStart => exact ⟨hO, ⟨rfl, hF⟩⟩
      case round =>
        clear hF hO
        obtain ⟨hO, ⟨rfl, hF⟩⟩ := hrel
        · have HF := hF
          obtain ⟨c0, c1, c2, c3, fz⟩ := hF
          go_wp2
          go_quiet (fail)
          go_wp2
          go_roundw
          case rel => exact ⟨by repeat (first | exact hO | apply Only.drewN | apply Only.drew | apply Only.setCell), .inr (.inr (.inl ⟨rfl, by repeat (first | exact HF | apply Four.drewN | apply Four.drew | apply Four.set0 | apply Four.set1 | apply Four.set2 | apply Four.set3)⟩))⟩
          case measure => simp [intOf]
    · go_wp2
      go_loopw [3] (fun j wr => Only b w wr ∧ ((j = .int .i64 3 ∧ Four b wr o0 o1 v o2) ∨ (j = .int .i64 2 ∧ Four b wr o0 o1 o2 v))) (fun j _ => (intOf j).toNat)
      case atStart => exact ⟨hO, .inl ⟨rfl, hF⟩⟩
      case round =>
        clear hF hO
        obtain ⟨hO, ⟨rfl, hF⟩ | ⟨rfl, hF⟩⟩ := hrel
        · have HF := hF
          obtain ⟨c0, c1, c2, c3, fz⟩ := hF
          go_wp2
          go_quiet (fail)
          go_wp2
          go_region
          go_wp2
          go_roundw
          case rel => exact ⟨by repeat (first | exact hO | apply Only.drewN | apply Only.drew | apply Only.setCell), .inr ⟨rfl, by repeat (first | exact HF | apply Four.drewN | apply Four.drew | apply Four.set0 | apply Four.set1 | apply Four.set2 | apply Four.set3)⟩⟩
          case measure => simp [intOf]
        · have HF := hF
          obtain ⟨c0, c1, c2, c3, fz⟩ := hF
          go_wp2
          go_quiet (fail)
          go_wp2
          go_roundw
          case rel => exact ⟨by repeat (first | exact hO | apply Only.drewN | apply Only.drew | apply Only.setCell), .inr (.inr (.inr ⟨rfl, by repeat (first | exact HF | apply Four.drewN | apply Four.drew | apply Four.set0 | apply Four.set1 | apply Four.set2 | apply Four.set3)⟩))⟩
          case measure => simp [intOf]
    · go_wp2
      go_end0
      exact ⟨rfl, hF, hO⟩

set_option maxHeartbeats 3200000 in
theorem sort_3_0 (b : Nat) (v o0 o1 o2 : Int) (g1 : o0 ≤ o1) (g2 : o1 ≤ o2) (t0 : ¬ o0 ≤ v) (t1 : ¬ o1 ≤ v) (t2 : ¬ o2 ≤ v) (w : World) (hF : Four b w o0 o1 o2 v) :
    Calls Trym.prog 19 #[.pointer (some ⟨b, 0, none⟩)] w fun e w' => e = .returned (.tuple #[]) ∧ Four b w' v o0 o1 o2 ∧ Only b w w' := by
  have g3 : o0 ≤ o2 := by omega
  go_enter Trym.func19, Trym.ntmps19
  go_wp2
  go_loopw [2] (fun i wr => Only b w wr ∧ ((i = .int .i64 1 ∧ Four b wr o0 o1 o2 v) ∨ (i = .int .i64 2 ∧ Four b wr o0 o1 o2 v) ∨ (i = .int .i64 3 ∧ Four b wr o0 o1 o2 v) ∨ (i = .int .i64 4 ∧ Four b wr v o0 o1 o2))) (fun i _ => 4 - (intOf i).toNat)
  case atStart => exact ⟨Only.refl _ _, .inl ⟨rfl, hF⟩⟩
  case round =>
    clear hF
    obtain ⟨hO, ⟨rfl, hF⟩ | ⟨rfl, hF⟩ | ⟨rfl, hF⟩ | ⟨rfl, hF⟩⟩ := hrel
    · go_wp2
      go_loopw [3] (fun j wr => Only b w wr ∧ ((j = .int .i64 1 ∧ Four b wr o0 o1 o2 v))) (fun j _ => (intOf j).toNat)
      case atStart => exact ⟨hO, ⟨rfl, hF⟩⟩
      case round =>
        clear hF hO
        obtain ⟨hO, ⟨rfl, hF⟩⟩ := hrel
        · have HF := hF
          obtain ⟨c0, c1, c2, c3, fz⟩ := hF
          go_wp2
          go_quiet (fail)
          go_wp2
          go_roundw
          case rel => exact ⟨by repeat (first | exact hO | apply Only.drewN | apply Only.drew | apply Only.setCell), .inr (.inl ⟨rfl, by repeat (first | exact HF | apply Four.drewN | apply Four.drew | apply Four.set0 | apply Four.set1 | apply Four.set2 | apply Four.set3)⟩)⟩
          case measure => simp [intOf]
    · go_wp2
      go_loopw [3] (fun j wr => Only b w wr ∧ ((j = .int .i64 2 ∧ Four b wr o0 o1 o2 v))) (fun j _ => (intOf j).toNat)
      case atStart => exact ⟨hO, ⟨rfl, hF⟩⟩
      case round =>
        clear hF hO
        obtain ⟨hO, ⟨rfl, hF⟩⟩ := hrel
        · have HF := hF
          obtain ⟨c0, c1, c2, c3, fz⟩ := hF
          go_wp2
          go_quiet (fail)
          go_wp2
          go_roundw
          case rel => exact ⟨by repeat (first | exact hO | apply Only.drewN | apply Only.drew | apply Only.setCell), .inr (.inr (.inl ⟨rfl, by repeat (first | exact HF | apply Four.drewN | apply Four.drew | apply Four.set0 | apply Four.set1 | apply Four.set2 | apply Four.set3)⟩))⟩
          case measure => simp [intOf]
    · go_wp2
      go_loopw [3] (fun j wr => Only b w wr ∧ ((j = .int .i64 3 ∧ Four b wr o0 o1 o2 v) ∨ (j = .int .i64 2 ∧ Four b wr o0 o1 v o2) ∨ (j = .int .i64 1 ∧ Four b wr o0 v o1 o2) ∨ (j = .int .i64 0 ∧ Four b wr v o0 o1 o2))) (fun j _ => (intOf j).toNat)
      case atStart => exact ⟨hO, .inl ⟨rfl, hF⟩⟩
      case round =>
        clear hF hO
        obtain ⟨hO, ⟨rfl, hF⟩ | ⟨rfl, hF⟩ | ⟨rfl, hF⟩ | ⟨rfl, hF⟩⟩ := hrel
        · have HF := hF
          obtain ⟨c0, c1, c2, c3, fz⟩ := hF
          go_wp2
          go_quiet (fail)
          go_wp2
          go_region
          go_wp2
          go_roundw
          case rel => exact ⟨by repeat (first | exact hO | apply Only.drewN | apply Only.drew | apply Only.setCell), .inr (.inl ⟨rfl, by repeat (first | exact HF | apply Four.drewN | apply Four.drew | apply Four.set0 | apply Four.set1 | apply Four.set2 | apply Four.set3)⟩)⟩
          case measure => simp [intOf]
        · have HF := hF
          obtain ⟨c0, c1, c2, c3, fz⟩ := hF
          go_wp2
          go_quiet (fail)
          go_wp2
          go_region
          go_wp2
          go_roundw
          case rel => exact ⟨by repeat (first | exact hO | apply Only.drewN | apply Only.drew | apply Only.setCell), .inr (.inr (.inl ⟨rfl, by repeat (first | exact HF | apply Four.drewN | apply Four.drew | apply Four.set0 | apply Four.set1 | apply Four.set2 | apply Four.set3)⟩))⟩
          case measure => simp [intOf]
        · have HF := hF
          obtain ⟨c0, c1, c2, c3, fz⟩ := hF
          go_wp2
          go_quiet (fail)
          go_wp2
          go_region
          go_wp2
          go_roundw
          case rel => exact ⟨by repeat (first | exact hO | apply Only.drewN | apply Only.drew | apply Only.setCell), .inr (.inr (.inr ⟨rfl, by repeat (first | exact HF | apply Four.drewN | apply Four.drew | apply Four.set0 | apply Four.set1 | apply Four.set2 | apply Four.set3)⟩))⟩
          case measure => simp [intOf]
        · have HF := hF
          obtain ⟨c0, c1, c2, c3, fz⟩ := hF
          go_wp2
          go_quiet (fail)
          go_wp2
          go_roundw
          case rel => exact ⟨by repeat (first | exact hO | apply Only.drewN | apply Only.drew | apply Only.setCell), .inr (.inr (.inr ⟨rfl, by repeat (first | exact HF | apply Four.drewN | apply Four.drew | apply Four.set0 | apply Four.set1 | apply Four.set2 | apply Four.set3)⟩))⟩
          case measure => simp [intOf]
    · go_wp2
      go_end0
      exact ⟨rfl, hF, hO⟩

set_option maxHeartbeats 3200000 in
theorem sort_3_1 (b : Nat) (v o0 o1 o2 : Int) (g1 : o0 ≤ o1) (g2 : o1 ≤ o2) (t0 : o0 ≤ v) (t1 : ¬ o1 ≤ v) (t2 : ¬ o2 ≤ v) (w : World) (hF : Four b w o0 o1 o2 v) :
    Calls Trym.prog 19 #[.pointer (some ⟨b, 0, none⟩)] w fun e w' => e = .returned (.tuple #[]) ∧ Four b w' o0 v o1 o2 ∧ Only b w w' := by
  have g3 : o0 ≤ o2 := by omega
  go_enter Trym.func19, Trym.ntmps19
  go_wp2
  go_loopw [2] (fun i wr => Only b w wr ∧ ((i = .int .i64 1 ∧ Four b wr o0 o1 o2 v) ∨ (i = .int .i64 2 ∧ Four b wr o0 o1 o2 v) ∨ (i = .int .i64 3 ∧ Four b wr o0 o1 o2 v) ∨ (i = .int .i64 4 ∧ Four b wr o0 v o1 o2))) (fun i _ => 4 - (intOf i).toNat)
  case atStart => exact ⟨Only.refl _ _, .inl ⟨rfl, hF⟩⟩
  case round =>
    clear hF
    obtain ⟨hO, ⟨rfl, hF⟩ | ⟨rfl, hF⟩ | ⟨rfl, hF⟩ | ⟨rfl, hF⟩⟩ := hrel
    · go_wp2
      go_loopw [3] (fun j wr => Only b w wr ∧ ((j = .int .i64 1 ∧ Four b wr o0 o1 o2 v))) (fun j _ => (intOf j).toNat)
      case atStart => exact ⟨hO, ⟨rfl, hF⟩⟩
      case round =>
        clear hF hO
        obtain ⟨hO, ⟨rfl, hF⟩⟩ := hrel
        · have HF := hF
          obtain ⟨c0, c1, c2, c3, fz⟩ := hF
          go_wp2
          go_quiet (fail)
          go_wp2
          go_roundw
          case rel => exact ⟨by repeat (first | exact hO | apply Only.drewN | apply Only.drew | apply Only.setCell), .inr (.inl ⟨rfl, by repeat (first | exact HF | apply Four.drewN | apply Four.drew | apply Four.set0 | apply Four.set1 | apply Four.set2 | apply Four.set3)⟩)⟩
          case measure => simp [intOf]
    · go_wp2
      go_loopw [3] (fun j wr => Only b w wr ∧ ((j = .int .i64 2 ∧ Four b wr o0 o1 o2 v))) (fun j _ => (intOf j).toNat)
      case atStart => exact ⟨hO, ⟨rfl, hF⟩⟩
      case round =>
        clear hF hO
        obtain ⟨hO, ⟨rfl, hF⟩⟩ := hrel
        · have HF := hF
          obtain ⟨c0, c1, c2, c3, fz⟩ := hF
          go_wp2
          go_quiet (fail)
          go_wp2
          go_roundw
          case rel => exact ⟨by repeat (first | exact hO | apply Only.drewN | apply Only.drew | apply Only.setCell), .inr (.inr (.inl ⟨rfl, by repeat (first | exact HF | apply Four.drewN | apply Four.drew | apply Four.set0 | apply Four.set1 | apply Four.set2 | apply Four.set3)⟩))⟩
          case measure => simp [intOf]
    · go_wp2
      go_loopw [3] (fun j wr => Only b w wr ∧ ((j = .int .i64 3 ∧ Four b wr o0 o1 o2 v) ∨ (j = .int .i64 2 ∧ Four b wr o0 o1 v o2) ∨ (j = .int .i64 1 ∧ Four b wr o0 v o1 o2))) (fun j _ => (intOf j).toNat)
      case atStart => exact ⟨hO, .inl ⟨rfl, hF⟩⟩
      case round =>
        clear hF hO
        obtain ⟨hO, ⟨rfl, hF⟩ | ⟨rfl, hF⟩ | ⟨rfl, hF⟩⟩ := hrel
        · have HF := hF
          obtain ⟨c0, c1, c2, c3, fz⟩ := hF
          go_wp2
          go_quiet (fail)
          go_wp2
          go_region
          go_wp2
          go_roundw
          case rel => exact ⟨by repeat (first | exact hO | apply Only.drewN | apply Only.drew | apply Only.setCell), .inr (.inl ⟨rfl, by repeat (first | exact HF | apply Four.drewN | apply Four.drew | apply Four.set0 | apply Four.set1 | apply Four.set2 | apply Four.set3)⟩)⟩
          case measure => simp [intOf]
        · have HF := hF
          obtain ⟨c0, c1, c2, c3, fz⟩ := hF
          go_wp2
          go_quiet (fail)
          go_wp2
          go_region
          go_wp2
          go_roundw
          case rel => exact ⟨by repeat (first | exact hO | apply Only.drewN | apply Only.drew | apply Only.setCell), .inr (.inr ⟨rfl, by repeat (first | exact HF | apply Four.drewN | apply Four.drew | apply Four.set0 | apply Four.set1 | apply Four.set2 | apply Four.set3)⟩)⟩
          case measure => simp [intOf]
        · have HF := hF
          obtain ⟨c0, c1, c2, c3, fz⟩ := hF
          go_wp2
          go_quiet (fail)
          go_wp2
          go_roundw
          case rel => exact ⟨by repeat (first | exact hO | apply Only.drewN | apply Only.drew | apply Only.setCell), .inr (.inr (.inr ⟨rfl, by repeat (first | exact HF | apply Four.drewN | apply Four.drew | apply Four.set0 | apply Four.set1 | apply Four.set2 | apply Four.set3)⟩))⟩
          case measure => simp [intOf]
    · go_wp2
      go_end0
      exact ⟨rfl, hF, hO⟩

set_option maxHeartbeats 3200000 in
theorem sort_3_2 (b : Nat) (v o0 o1 o2 : Int) (g1 : o0 ≤ o1) (g2 : o1 ≤ o2) (t0 : o0 ≤ v) (t1 : o1 ≤ v) (t2 : ¬ o2 ≤ v) (w : World) (hF : Four b w o0 o1 o2 v) :
    Calls Trym.prog 19 #[.pointer (some ⟨b, 0, none⟩)] w fun e w' => e = .returned (.tuple #[]) ∧ Four b w' o0 o1 v o2 ∧ Only b w w' := by
  have g3 : o0 ≤ o2 := by omega
  go_enter Trym.func19, Trym.ntmps19
  go_wp2
  go_loopw [2] (fun i wr => Only b w wr ∧ ((i = .int .i64 1 ∧ Four b wr o0 o1 o2 v) ∨ (i = .int .i64 2 ∧ Four b wr o0 o1 o2 v) ∨ (i = .int .i64 3 ∧ Four b wr o0 o1 o2 v) ∨ (i = .int .i64 4 ∧ Four b wr o0 o1 v o2))) (fun i _ => 4 - (intOf i).toNat)
  case atStart => exact ⟨Only.refl _ _, .inl ⟨rfl, hF⟩⟩
  case round =>
    clear hF
    obtain ⟨hO, ⟨rfl, hF⟩ | ⟨rfl, hF⟩ | ⟨rfl, hF⟩ | ⟨rfl, hF⟩⟩ := hrel
    · go_wp2
      go_loopw [3] (fun j wr => Only b w wr ∧ ((j = .int .i64 1 ∧ Four b wr o0 o1 o2 v))) (fun j _ => (intOf j).toNat)
      case atStart => exact ⟨hO, ⟨rfl, hF⟩⟩
      case round =>
        clear hF hO
        obtain ⟨hO, ⟨rfl, hF⟩⟩ := hrel
        · have HF := hF
          obtain ⟨c0, c1, c2, c3, fz⟩ := hF
          go_wp2
          go_quiet (fail)
          go_wp2
          go_roundw
          case rel => exact ⟨by repeat (first | exact hO | apply Only.drewN | apply Only.drew | apply Only.setCell), .inr (.inl ⟨rfl, by repeat (first | exact HF | apply Four.drewN | apply Four.drew | apply Four.set0 | apply Four.set1 | apply Four.set2 | apply Four.set3)⟩)⟩
          case measure => simp [intOf]
    · go_wp2
      go_loopw [3] (fun j wr => Only b w wr ∧ ((j = .int .i64 2 ∧ Four b wr o0 o1 o2 v))) (fun j _ => (intOf j).toNat)
      case atStart => exact ⟨hO, ⟨rfl, hF⟩⟩
      case round =>
        clear hF hO
        obtain ⟨hO, ⟨rfl, hF⟩⟩ := hrel
        · have HF := hF
          obtain ⟨c0, c1, c2, c3, fz⟩ := hF
          go_wp2
          go_quiet (fail)
          go_wp2
          go_roundw
          case rel => exact ⟨by repeat (first | exact hO | apply Only.drewN | apply Only.drew | apply Only.setCell), .inr (.inr (.inl ⟨rfl, by repeat (first | exact HF | apply Four.drewN | apply Four.drew | apply Four.set0 | apply Four.set1 | apply Four.set2 | apply Four.set3)⟩))⟩
          case measure => simp [intOf]
    · go_wp2
      go_loopw [3] (fun j wr => Only b w wr ∧ ((j = .int .i64 3 ∧ Four b wr o0 o1 o2 v) ∨ (j = .int .i64 2 ∧ Four b wr o0 o1 v o2))) (fun j _ => (intOf j).toNat)
      case atStart => exact ⟨hO, .inl ⟨rfl, hF⟩⟩
      case round =>
        clear hF hO
        obtain ⟨hO, ⟨rfl, hF⟩ | ⟨rfl, hF⟩⟩ := hrel
        · have HF := hF
          obtain ⟨c0, c1, c2, c3, fz⟩ := hF
          go_wp2
          go_quiet (fail)
          go_wp2
          go_region
          go_wp2
          go_roundw
          case rel => exact ⟨by repeat (first | exact hO | apply Only.drewN | apply Only.drew | apply Only.setCell), .inr ⟨rfl, by repeat (first | exact HF | apply Four.drewN | apply Four.drew | apply Four.set0 | apply Four.set1 | apply Four.set2 | apply Four.set3)⟩⟩
          case measure => simp [intOf]
        · have HF := hF
          obtain ⟨c0, c1, c2, c3, fz⟩ := hF
          go_wp2
          go_quiet (fail)
          go_wp2
          go_roundw
          case rel => exact ⟨by repeat (first | exact hO | apply Only.drewN | apply Only.drew | apply Only.setCell), .inr (.inr (.inr ⟨rfl, by repeat (first | exact HF | apply Four.drewN | apply Four.drew | apply Four.set0 | apply Four.set1 | apply Four.set2 | apply Four.set3)⟩))⟩
          case measure => simp [intOf]
    · go_wp2
      go_end0
      exact ⟨rfl, hF, hO⟩

set_option maxHeartbeats 3200000 in
theorem sort_3_3 (b : Nat) (v o0 o1 o2 : Int) (g1 : o0 ≤ o1) (g2 : o1 ≤ o2) (t0 : o0 ≤ v) (t1 : o1 ≤ v) (t2 : o2 ≤ v) (w : World) (hF : Four b w o0 o1 o2 v) :
    Calls Trym.prog 19 #[.pointer (some ⟨b, 0, none⟩)] w fun e w' => e = .returned (.tuple #[]) ∧ Four b w' o0 o1 o2 v ∧ Only b w w' := by
  have g3 : o0 ≤ o2 := by omega
  go_enter Trym.func19, Trym.ntmps19
  go_wp2
  go_loopw [2] (fun i wr => Only b w wr ∧ ((i = .int .i64 1 ∧ Four b wr o0 o1 o2 v) ∨ (i = .int .i64 2 ∧ Four b wr o0 o1 o2 v) ∨ (i = .int .i64 3 ∧ Four b wr o0 o1 o2 v) ∨ (i = .int .i64 4 ∧ Four b wr o0 o1 o2 v))) (fun i _ => 4 - (intOf i).toNat)
  case atStart => exact ⟨Only.refl _ _, .inl ⟨rfl, hF⟩⟩
  case round =>
    clear hF
    obtain ⟨hO, ⟨rfl, hF⟩ | ⟨rfl, hF⟩ | ⟨rfl, hF⟩ | ⟨rfl, hF⟩⟩ := hrel
    · go_wp2
      go_loopw [3] (fun j wr => Only b w wr ∧ ((j = .int .i64 1 ∧ Four b wr o0 o1 o2 v))) (fun j _ => (intOf j).toNat)
      case atStart => exact ⟨hO, ⟨rfl, hF⟩⟩
      case round =>
        clear hF hO
        obtain ⟨hO, ⟨rfl, hF⟩⟩ := hrel
        · have HF := hF
          obtain ⟨c0, c1, c2, c3, fz⟩ := hF
          go_wp2
          go_quiet (fail)
          go_wp2
          go_roundw
          case rel => exact ⟨by repeat (first | exact hO | apply Only.drewN | apply Only.drew | apply Only.setCell), .inr (.inl ⟨rfl, by repeat (first | exact HF | apply Four.drewN | apply Four.drew | apply Four.set0 | apply Four.set1 | apply Four.set2 | apply Four.set3)⟩)⟩
          case measure => simp [intOf]
    · go_wp2
      go_loopw [3] (fun j wr => Only b w wr ∧ ((j = .int .i64 2 ∧ Four b wr o0 o1 o2 v))) (fun j _ => (intOf j).toNat)
      case atStart => exact ⟨hO, ⟨rfl, hF⟩⟩
      case round =>
        clear hF hO
        obtain ⟨hO, ⟨rfl, hF⟩⟩ := hrel
        · have HF := hF
          obtain ⟨c0, c1, c2, c3, fz⟩ := hF
          go_wp2
          go_quiet (fail)
          go_wp2
          go_roundw
          case rel => exact ⟨by repeat (first | exact hO | apply Only.drewN | apply Only.drew | apply Only.setCell), .inr (.inr (.inl ⟨rfl, by repeat (first | exact HF | apply Four.drewN | apply Four.drew | apply Four.set0 | apply Four.set1 | apply Four.set2 | apply Four.set3)⟩))⟩
          case measure => simp [intOf]
    · go_wp2
      go_loopw [3] (fun j wr => Only b w wr ∧ ((j = .int .i64 3 ∧ Four b wr o0 o1 o2 v))) (fun j _ => (intOf j).toNat)
      case atStart => exact ⟨hO, ⟨rfl, hF⟩⟩
      case round =>
        clear hF hO
        obtain ⟨hO, ⟨rfl, hF⟩⟩ := hrel
        · have HF := hF
          obtain ⟨c0, c1, c2, c3, fz⟩ := hF
          go_wp2
          go_quiet (fail)
          go_wp2
          go_roundw
          case rel => exact ⟨by repeat (first | exact hO | apply Only.drewN | apply Only.drew | apply Only.setCell), .inr (.inr (.inr ⟨rfl, by repeat (first | exact HF | apply Four.drewN | apply Four.drew | apply Four.set0 | apply Four.set1 | apply Four.set2 | apply Four.set3)⟩))⟩
          case measure => simp [intOf]
    · go_wp2
      go_end0
      exact ⟨rfl, hF, hO⟩

end Go.Proofs.Qxb6600190aMods
