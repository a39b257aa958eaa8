/- FnSettleKeepsBucketOverScript: what the round and the copying loop keep, and the walk. -/
import Derived.Test.Qxb6600190aModsWalksE
import Derived.Test.Qxb6600190aModsWalksG
import Derived.Test.Qxb6600190aModsWalksH
import Derived.Test.Qxb6600190aModsWalksQ
import Derived.LoopTactic
import Derived.Deep.OwnRows
namespace Go.Proofs.Qxb6600190aMods
open Go.RowKit
set_option linter.unusedVariables false

theorem Four.freshJ (W : World) (b : Nat) (hb : b = W.heap.size) (x0 x1 x2 x3 : Int) (t : TypeId) : Four b (W.alloc (.cells #[.int .u32 x0, .int .u32 x1, .int .u32 x2, .int .u32 x3] t)) x0 x1 x2 x3 := by
  subst hb
  refine ⟨by simp, by simp, by simp, by simp, fun j => ?_⟩
  rw [frozen?_alloc_cells]; simp [World.frozen?]
theorem Four.keep {b : Nat} {w w' : World} {x0 x1 x2 x3 : Int} (h : Four b w x0 x1 x2 x3) (e : w'.heap[b]? = w.heap[b]?) : Four b w' x0 x1 x2 x3 :=
  ⟨(World.cell?_of_block (w := w) e).trans h.c0, (World.cell?_of_block (w := w) e).trans h.c1, (World.cell?_of_block (w := w) e).trans h.c2, (World.cell?_of_block (w := w) e).trans h.c3, fun j => (World.frozen?_of_block (w := w) e).trans (h.fz j)⟩

/-- Block C holds n numbers of uint64, in its first n cells, and may be written. -/
structure RowU (C n : Nat) (w : World) : Prop where
  cell : ∀ j, j < n → ∃ z : Int, w.cell? ⟨C, j, none⟩ = some (.int .u64 z) ∧ 0 ≤ z ∧ z ≤ 18446744073709551615
  fz : ∀ j, w.frozen? ⟨C, j, none⟩ = false
theorem RowU.keep {C n : Nat} {w w' : World} (h : RowU C n w) (e : w'.heap[C]? = w.heap[C]?) : RowU C n w' :=
  ⟨fun j hj => by obtain ⟨z, a, b⟩ := h.cell j hj; exact ⟨z, (World.cell?_of_block (w := w) e).trans a, b⟩, fun j => (World.frozen?_of_block (w := w) e).trans (h.fz j)⟩
theorem RowU.set {C n : Nat} {w : World} (h : RowU C n w) (k : Nat) (hk : k < n) (z : Int) (h0 : 0 ≤ z) (h1 : z ≤ 18446744073709551615) : RowU C n (w.setCell ⟨C, k, none⟩ (.int .u64 z)) := by
  refine ⟨fun j hj => ?_, fun j => (World.frozen?_setCell _ _ _ _).trans (h.fz j)⟩
  by_cases e : k = j
  · subst e
    obtain ⟨y, a, _⟩ := h.cell k hk
    exact ⟨z, World.cell?_setCell_same _ _ _ a, h0, h1⟩
  · obtain ⟨y, a, b⟩ := h.cell j hj
    exact ⟨y, (World.cell?_setCell_other _ _ _ _ (ne_off e)).trans a, b⟩
theorem RowU.made (w : World) (C n : Nat) (hC : C = w.heap.size) (t : TypeId) : RowU C n (w.alloc (.cells (madeCells #[.int .u64 0] n) t)) := by
  subst hC
  refine ⟨fun j hj => ⟨0, ?_, by omega, by omega⟩, fun j => ?_⟩
  · rw [World.cell?_alloc_new, ← Array.getElem?_toList, toList_madeCells_one, List.getElem?_replicate, if_pos hj]
  · rw [frozen?_alloc_cells]; simp [World.frozen?]

theorem Only.below {b B : Nat} {w w' : World} (h : Only b w w') (hb : B ≤ b) : Below B w w' :=
  ⟨h.os, h.tape, h.output, by rw [h.size]; exact Nat.le_refl _, fun k hk => h.block k (by omega)⟩
theorem below_drewN {B : Nat} {w w' : World} (h : Below B w w') (q : Nat) : Below B w (w'.drewN q) := ⟨h.os, h.tape, h.output, h.size, h.block⟩
theorem heap_alloc_lt (w : World) (o : Obj) (k : Nat) (h : k < w.heap.size) : (w.alloc o).heap[k]? = w.heap[k]? := Below.heap_alloc w o k h
theorem heap_set_ne (w : World) (b j : Nat) (u : Value) (k : Nat) (h : k ≠ b) : (w.setCell ⟨b, j, none⟩ u).heap[k]? = w.heap[k]? := Below.heap_setCell w ⟨b, j, none⟩ u k h

/-- WHAT STANDS AT EVERY ROUND's HEAD: the bucket in block A ascends; block C holds the script's copy; nothing old has turned. -/
structure Held (A C n : Nat) (w wr : World) (y0 y1 y2 y3 : Int) : Prop where
  four : Four A wr y0 y1 y2 y3
  s0 : y0 ≤ y1
  s1 : y1 ≤ y2
  s2 : y2 ≤ y3
  row : RowU C n wr
  below : Below w.heap.size w wr
  hA : A < wr.heap.size
  hC : C < wr.heap.size

/-- The round, taken as a whole: from wr the new block 'want' was laid and sorted (w1), then A was written and settled (w2). -/
theorem Held.round {A C n : Nat} {w wr w1 w2 : World} {y0 y1 y2 y3 : Int} (h : Held A C n w wr y0 y1 y2 y3) (hAC : A ≠ C) (hAw : w.heap.size ≤ A) (o : Obj) (i : Nat) (u : Value)
    (h1 : Only wr.heap.size (wr.alloc o) w1) (h2 : Only A (w1.setCell ⟨A, i, none⟩ u) w2) {p0 p1 p2 p3 : Int} (hF : Four A w2 p0 p1 p2 p3) (q0 : p0 ≤ p1) (q1 : p1 ≤ p2) (q2 : p2 ≤ p3) :
    Held A C n w w2 p0 p1 p2 p3 := by
  have hA := h.hA
  have hC := h.hC
  have z1 : w1.heap.size = wr.heap.size + 1 := by rw [h1.size]; simp
  have z2 : w2.heap.size = wr.heap.size + 1 := by rw [h2.size]; simpa [World.setCell] using z1
  have hb := h.below.size
  refine ⟨hF, q0, q1, q2, h.row.keep ?_, ?_, by omega, by omega⟩
  · rw [h2.block C (Ne.symm hAC), heap_set_ne _ _ _ _ _ (Ne.symm hAC), h1.block C (by omega), heap_alloc_lt _ _ _ hC]
  · have b1 : Below w.heap.size w (wr.alloc o) := h.below.alloc hb o
    have b2 := b1.trans (h1.below hb)
    exact (b2.setCell (p := ⟨A, i, none⟩) hAw u).trans (h2.below hAw)

theorem info22 : (Trym.prog.info? 22).map (fun i => (i.zero, i.size, i.bytes)) = some (some (.int .u64 0), 1, 8) := by kernel_rfl
theorem and3 (z : Int) (h0 : 0 ≤ z) (h1 : z ≤ 18446744073709551615) : bits .and .u64 z 3 = z % 4 := by
  rw [u64_and z 3 h0 (by omega) (by omega) (by omega)]
  have : z.toNat &&& (3 : Int).toNat = z.toNat % 4 := Nat.and_two_pow_sub_one_eq_mod z.toNat 2
  rw [this]; omega

set_option maxHeartbeats 16000000 in
theorem f10_some (x0 x1 x2 x3 : Int) (b off n cap : Nat) (hs : srt4 x0 x1 x2 x3 = true) (hn : n ≤ 4096) (w : World)
    (hcell : ∀ j, j < n → ∃ z : Int, w.cell? ⟨b, off + j, none⟩ = some (.int .u64 z) ∧ 0 ≤ z ∧ z ≤ 18446744073709551615) (hb : b < w.heap.size) :
    Calls Trym.prog 10 #[.agg #[.int .u32 x0, .int .u32 x1, .int .u32 x2, .int .u32 x3], .slice (some ⟨b, off, none⟩) n cap] w fun e w' => e = .returned (.bool true) ∧ Below w.heap.size w w' := by
  have hsd : x0 ≤ x1 ∧ x1 ≤ x2 ∧ x2 ≤ x3 := of_decide_eq_true hs
  have hn1 : ¬ (4096 : Int) < (n : Int) := by omega
  have hmk := run_make_row' (P := Trym.prog) 36 22 (.int .u64 0) 8 Trym.underlying36 info22 rfl .i64 .i64 n (by omega) (by omega)
  have hnil := fun wx a n c => run_neq_slice_nil_any (P := Trym.prog) wx 36 22 a n c 0 0 Trym.underlying36
  have HSD : Hid (x0 ≤ x1 ∧ x1 ≤ x2 ∧ x2 ≤ x3) := hsd
  clear hsd
  have HC : Hid (∀ j, j < n → ∃ z : Int, w.cell? ⟨b, off + j, none⟩ = some (.int .u64 z) ∧ 0 ≤ z ∧ z ≤ 18446744073709551615) := hcell
  clear hcell
  go_enter Trym.func10, Trym.ntmps10
  go_wp2_with fail
  refine (bytes_ok x0 x1 x2 x3 _ n cap (by omega) _).mono ?_
  rintro e w' ⟨rfl, k1, rfl⟩
  go_wp2_with fail
  refine (sorted4_any x0 x1 x2 x3 _).mono ?_
  rintro e w' ⟨rfl, k2, rfl⟩
  go_wp2_with fail
  clear hmk hnil
  go_loopw [6] (fun i wr => ∃ k : Nat, k ≤ n ∧ i = .int .i64 k ∧ RowU (w.heap.size + 1 + 1 + 1) n wr ∧ Four w.heap.size wr x0 x1 x2 x3 ∧ Below w.heap.size w wr ∧ wr.heap.size = w.heap.size + 1 + 1 + 1 + 1) (fun i _ => n - (intOf i).toNat)
  case atStart =>
    refine ⟨0, by omega, rfl, RowU.made _ _ _ (by simp) _, ?_, ?_, by simp⟩
    · refine Four.keep (Four.keep (Four.keep (Four.freshJ w w.heap.size rfl x0 x1 x2 x3 30) (heap_alloc_lt _ _ _ (by simp))) (heap_alloc_lt _ _ _ (by simp; omega))) (heap_alloc_lt _ _ _ (by simp; omega))
    · exact ((((Below.refl _ _).alloc (Nat.le_refl _) _).alloc (by simp) _).alloc (by simp; omega) _).alloc (by simp; omega) _
  case round =>
    obtain ⟨k, hk, rfl, hR, hF, hB, hz⟩ := hrel
    by_cases hlt : k < n
    · obtain ⟨z, hc, z0, z1⟩ := HC.out k hlt
      have hc' : wr.cell? ⟨b, off + k, none⟩ = some (.int .u64 z) := (hB.cell (p := ⟨b, off + k, none⟩) hb).trans hc
      obtain ⟨zo, hd, _, _⟩ := hR.cell k hlt
      have hfz := hR.fz k
      clear hc
      go_wp2
      go_roundw
      case rel => exact ⟨k + 1, by omega, by go_num, hR.set k hlt z z0 z1, hF.keep (heap_set_ne _ _ _ _ _ (by omega)), hB.setCell (p := ⟨(w.heap.size + 1 + 1 + 1), k, none⟩) (by show w.heap.size ≤ (w.heap.size + 1 + 1 + 1); omega) _, by simpa [World.setCell] using hz⟩
      case measure => simp [intOf]; omega
    · have hF' := hF
      obtain ⟨c0, c1, c2, c3, fz⟩ := hF'
      go_wp2
      have hH0 : Held (w.heap.size + 1 + 1 + 1 + 1) (w.heap.size + 1 + 1 + 1) n w (wr.alloc (.cells #[.int .u32 x0, .int .u32 x1, .int .u32 x2, .int .u32 x3] 30)) x0 x1 x2 x3 :=
        ⟨Four.freshJ _ _ hz.symm _ _ _ _ _, HSD.out.1, HSD.out.2.1, HSD.out.2.2, hR.keep (heap_alloc_lt _ _ _ (by omega)), hB.alloc (by omega) _, by simp; omega, by simp; omega⟩
      clear c0 c1 c2 c3 fz hF hR hB hz hlt hk HC HSD hs
      have QE := run_eq4
      have BS := beq4_same
      go_loopw [8] (fun i wr => ∃ k : Nat, k ≤ n ∧ i = .int .i64 k ∧ ∃ y0 y1 y2 y3 : Int, Held (w.heap.size + 1 + 1 + 1 + 1) (w.heap.size + 1 + 1 + 1) n w wr y0 y1 y2 y3) (fun i _ => n - (intOf i).toNat)
      case atStart => exact ⟨0, by omega, rfl, _, _, _, _, hH0⟩
      case round =>
        clear hH0
        obtain ⟨k, hk, rfl, y0, y1, y2, y3, hH⟩ := hrel
        by_cases hlt : k < n
        · obtain ⟨z, hcz, z0, z1⟩ := hH.row.cell k hlt
          obtain ⟨v, hv⟩ : ∃ v, z / 4294967296 = v := ⟨_, rfl⟩
          have v0 : 0 ≤ v := by omega
          have v1 : v ≤ 4294967295 := by omega
          have hA := hH.hA
          have hC := hH.hC
          have g0 := hH.s0
          have g1 := hH.s1
          have g2 := hH.s2
          have hF := hH.four
          obtain ⟨c0, c1, c2, c3, fz⟩ := hF
          have hs4 : bits .and .u64 z 3 = 0 ∨ bits .and .u64 z 3 = 1 ∨ bits .and .u64 z 3 = 2 ∨ bits .and .u64 z 3 = 3 := by rw [and3 z z0 z1]; omega
          rcases hs4 with es | es | es | es
          · by_cases t0 : y1 < v <;> by_cases t1 : y2 < v <;> by_cases t2 : y3 < v
            · go_wp2_with fail
              refine (sort_0_3 _ v y1 y2 y3 (by omega) (by omega) (by omega) (by omega) (by omega) _ (Four.freshJ _ _ rfl _ _ _ _ _)).mono ?_
              rintro e w1 ⟨rfl, hF1, hO1⟩
              have fA1 := hH.four.keep ((hO1.block (w.heap.size + 1 + 1 + 1 + 1) (by omega)).trans (heap_alloc_lt _ _ _ hA))
              have fA2 := fA1
              clear c0 c1 c2 c3 fz
              obtain ⟨c0, c1, c2, c3, fz⟩ := fA2
              go_wp2_with fail
              refine (zzsettle_0_3 _ v y1 y2 y3 (by omega) (by omega) (by omega) _ (fA1.set0 v)).mono ?_
              rintro e w2 ⟨rfl, hF2, hO2⟩
              have fW := (hF1.keep (heap_set_ne w1 (w.heap.size + 1 + 1 + 1 + 1) 0 (.int .u32 v) wr.heap.size (by omega))).keep (hO2.block wr.heap.size (by omega))
              have hH2 := hH.round (by omega) (by omega) _ _ _ hO1 hO2 hF2 (by omega) (by omega) (by omega)
              clear c0 c1 c2 c3 fz fA1
              obtain ⟨c0, c1, c2, c3, fz⟩ := hF2
              obtain ⟨d0, d1, d2, d3, fz2⟩ := fW
              clear hO1 hO2 hF1 hH fz fz2
              go_wp2_with fail
              go_roundw
              case rel => exact ⟨k + 1, by omega, by go_num, _, _, _, _, hH2⟩
              case measure => simp [intOf]; omega
            · go_wp2_with fail
              refine (sort_0_2 _ v y1 y2 y3 (by omega) (by omega) (by omega) (by omega) (by omega) _ (Four.freshJ _ _ rfl _ _ _ _ _)).mono ?_
              rintro e w1 ⟨rfl, hF1, hO1⟩
              have fA1 := hH.four.keep ((hO1.block (w.heap.size + 1 + 1 + 1 + 1) (by omega)).trans (heap_alloc_lt _ _ _ hA))
              have fA2 := fA1
              clear c0 c1 c2 c3 fz
              obtain ⟨c0, c1, c2, c3, fz⟩ := fA2
              go_wp2_with fail
              refine (zzsettle_0_2 _ v y1 y2 y3 (by omega) (by omega) (by omega) _ (fA1.set0 v)).mono ?_
              rintro e w2 ⟨rfl, hF2, hO2⟩
              have fW := (hF1.keep (heap_set_ne w1 (w.heap.size + 1 + 1 + 1 + 1) 0 (.int .u32 v) wr.heap.size (by omega))).keep (hO2.block wr.heap.size (by omega))
              have hH2 := hH.round (by omega) (by omega) _ _ _ hO1 hO2 hF2 (by omega) (by omega) (by omega)
              clear c0 c1 c2 c3 fz fA1
              obtain ⟨c0, c1, c2, c3, fz⟩ := hF2
              obtain ⟨d0, d1, d2, d3, fz2⟩ := fW
              clear hO1 hO2 hF1 hH fz fz2
              go_wp2_with fail
              go_roundw
              case rel => exact ⟨k + 1, by omega, by go_num, _, _, _, _, hH2⟩
              case measure => simp [intOf]; omega
            · exfalso; omega
            · go_wp2_with fail
              refine (sort_0_1 _ v y1 y2 y3 (by omega) (by omega) (by omega) (by omega) (by omega) _ (Four.freshJ _ _ rfl _ _ _ _ _)).mono ?_
              rintro e w1 ⟨rfl, hF1, hO1⟩
              have fA1 := hH.four.keep ((hO1.block (w.heap.size + 1 + 1 + 1 + 1) (by omega)).trans (heap_alloc_lt _ _ _ hA))
              have fA2 := fA1
              clear c0 c1 c2 c3 fz
              obtain ⟨c0, c1, c2, c3, fz⟩ := fA2
              go_wp2_with fail
              refine (zzsettle_0_1 _ v y1 y2 y3 (by omega) (by omega) _ (fA1.set0 v)).mono ?_
              rintro e w2 ⟨rfl, hF2, hO2⟩
              have fW := (hF1.keep (heap_set_ne w1 (w.heap.size + 1 + 1 + 1 + 1) 0 (.int .u32 v) wr.heap.size (by omega))).keep (hO2.block wr.heap.size (by omega))
              have hH2 := hH.round (by omega) (by omega) _ _ _ hO1 hO2 hF2 (by omega) (by omega) (by omega)
              clear c0 c1 c2 c3 fz fA1
              obtain ⟨c0, c1, c2, c3, fz⟩ := hF2
              obtain ⟨d0, d1, d2, d3, fz2⟩ := fW
              clear hO1 hO2 hF1 hH fz fz2
              go_wp2_with fail
              go_roundw
              case rel => exact ⟨k + 1, by omega, by go_num, _, _, _, _, hH2⟩
              case measure => simp [intOf]; omega
            · exfalso; omega
            · exfalso; omega
            · exfalso; omega
            · go_wp2_with fail
              refine (sort_0_0 _ v y1 y2 y3 (by omega) (by omega) (by omega) (by omega) (by omega) _ (Four.freshJ _ _ rfl _ _ _ _ _)).mono ?_
              rintro e w1 ⟨rfl, hF1, hO1⟩
              have fA1 := hH.four.keep ((hO1.block (w.heap.size + 1 + 1 + 1 + 1) (by omega)).trans (heap_alloc_lt _ _ _ hA))
              have fA2 := fA1
              clear c0 c1 c2 c3 fz
              obtain ⟨c0, c1, c2, c3, fz⟩ := fA2
              go_wp2_with fail
              refine (zzsettle_0_0 _ v y1 y2 y3 (by omega) _ (fA1.set0 v)).mono ?_
              rintro e w2 ⟨rfl, hF2, hO2⟩
              have fW := (hF1.keep (heap_set_ne w1 (w.heap.size + 1 + 1 + 1 + 1) 0 (.int .u32 v) wr.heap.size (by omega))).keep (hO2.block wr.heap.size (by omega))
              have hH2 := hH.round (by omega) (by omega) _ _ _ hO1 hO2 hF2 (by omega) (by omega) (by omega)
              clear c0 c1 c2 c3 fz fA1
              obtain ⟨c0, c1, c2, c3, fz⟩ := hF2
              obtain ⟨d0, d1, d2, d3, fz2⟩ := fW
              clear hO1 hO2 hF1 hH fz fz2
              go_wp2_with fail
              go_roundw
              case rel => exact ⟨k + 1, by omega, by go_num, _, _, _, _, hH2⟩
              case measure => simp [intOf]; omega
          · by_cases t0 : y0 ≤ v <;> by_cases t1 : y2 < v <;> by_cases t2 : y3 < v
            · go_wp2_with fail
              refine (sort_1_3 _ v y0 y2 y3 (by omega) (by omega) (by omega) (by omega) (by omega) _ (Four.freshJ _ _ rfl _ _ _ _ _)).mono ?_
              rintro e w1 ⟨rfl, hF1, hO1⟩
              have fA1 := hH.four.keep ((hO1.block (w.heap.size + 1 + 1 + 1 + 1) (by omega)).trans (heap_alloc_lt _ _ _ hA))
              have fA2 := fA1
              clear c0 c1 c2 c3 fz
              obtain ⟨c0, c1, c2, c3, fz⟩ := fA2
              go_wp2_with fail
              refine (zzsettle_1_3 _ v y0 y2 y3 (by omega) (by omega) (by omega) _ (fA1.set1 v)).mono ?_
              rintro e w2 ⟨rfl, hF2, hO2⟩
              have fW := (hF1.keep (heap_set_ne w1 (w.heap.size + 1 + 1 + 1 + 1) 1 (.int .u32 v) wr.heap.size (by omega))).keep (hO2.block wr.heap.size (by omega))
              have hH2 := hH.round (by omega) (by omega) _ _ _ hO1 hO2 hF2 (by omega) (by omega) (by omega)
              clear c0 c1 c2 c3 fz fA1
              obtain ⟨c0, c1, c2, c3, fz⟩ := hF2
              obtain ⟨d0, d1, d2, d3, fz2⟩ := fW
              clear hO1 hO2 hF1 hH fz fz2
              go_wp2_with fail
              go_roundw
              case rel => exact ⟨k + 1, by omega, by go_num, _, _, _, _, hH2⟩
              case measure => simp [intOf]; omega
            · go_wp2_with fail
              refine (sort_1_2 _ v y0 y2 y3 (by omega) (by omega) (by omega) (by omega) (by omega) _ (Four.freshJ _ _ rfl _ _ _ _ _)).mono ?_
              rintro e w1 ⟨rfl, hF1, hO1⟩
              have fA1 := hH.four.keep ((hO1.block (w.heap.size + 1 + 1 + 1 + 1) (by omega)).trans (heap_alloc_lt _ _ _ hA))
              have fA2 := fA1
              clear c0 c1 c2 c3 fz
              obtain ⟨c0, c1, c2, c3, fz⟩ := fA2
              go_wp2_with fail
              refine (zzsettle_1_2 _ v y0 y2 y3 (by omega) (by omega) (by omega) _ (fA1.set1 v)).mono ?_
              rintro e w2 ⟨rfl, hF2, hO2⟩
              have fW := (hF1.keep (heap_set_ne w1 (w.heap.size + 1 + 1 + 1 + 1) 1 (.int .u32 v) wr.heap.size (by omega))).keep (hO2.block wr.heap.size (by omega))
              have hH2 := hH.round (by omega) (by omega) _ _ _ hO1 hO2 hF2 (by omega) (by omega) (by omega)
              clear c0 c1 c2 c3 fz fA1
              obtain ⟨c0, c1, c2, c3, fz⟩ := hF2
              obtain ⟨d0, d1, d2, d3, fz2⟩ := fW
              clear hO1 hO2 hF1 hH fz fz2
              go_wp2_with fail
              go_roundw
              case rel => exact ⟨k + 1, by omega, by go_num, _, _, _, _, hH2⟩
              case measure => simp [intOf]; omega
            · exfalso; omega
            · go_wp2_with fail
              refine (sort_1_1 _ v y0 y2 y3 (by omega) (by omega) (by omega) (by omega) (by omega) _ (Four.freshJ _ _ rfl _ _ _ _ _)).mono ?_
              rintro e w1 ⟨rfl, hF1, hO1⟩
              have fA1 := hH.four.keep ((hO1.block (w.heap.size + 1 + 1 + 1 + 1) (by omega)).trans (heap_alloc_lt _ _ _ hA))
              have fA2 := fA1
              clear c0 c1 c2 c3 fz
              obtain ⟨c0, c1, c2, c3, fz⟩ := fA2
              go_wp2_with fail
              refine (zzsettle_1_1 _ v y0 y2 y3 (by omega) (by omega) _ (fA1.set1 v)).mono ?_
              rintro e w2 ⟨rfl, hF2, hO2⟩
              have fW := (hF1.keep (heap_set_ne w1 (w.heap.size + 1 + 1 + 1 + 1) 1 (.int .u32 v) wr.heap.size (by omega))).keep (hO2.block wr.heap.size (by omega))
              have hH2 := hH.round (by omega) (by omega) _ _ _ hO1 hO2 hF2 (by omega) (by omega) (by omega)
              clear c0 c1 c2 c3 fz fA1
              obtain ⟨c0, c1, c2, c3, fz⟩ := hF2
              obtain ⟨d0, d1, d2, d3, fz2⟩ := fW
              clear hO1 hO2 hF1 hH fz fz2
              go_wp2_with fail
              go_roundw
              case rel => exact ⟨k + 1, by omega, by go_num, _, _, _, _, hH2⟩
              case measure => simp [intOf]; omega
            · exfalso; omega
            · exfalso; omega
            · exfalso; omega
            · go_wp2_with fail
              refine (sort_1_0 _ v y0 y2 y3 (by omega) (by omega) (by omega) (by omega) (by omega) _ (Four.freshJ _ _ rfl _ _ _ _ _)).mono ?_
              rintro e w1 ⟨rfl, hF1, hO1⟩
              have fA1 := hH.four.keep ((hO1.block (w.heap.size + 1 + 1 + 1 + 1) (by omega)).trans (heap_alloc_lt _ _ _ hA))
              have fA2 := fA1
              clear c0 c1 c2 c3 fz
              obtain ⟨c0, c1, c2, c3, fz⟩ := fA2
              go_wp2_with fail
              refine (zzsettle_1_0 _ v y0 y2 y3 (by omega) _ (fA1.set1 v)).mono ?_
              rintro e w2 ⟨rfl, hF2, hO2⟩
              have fW := (hF1.keep (heap_set_ne w1 (w.heap.size + 1 + 1 + 1 + 1) 1 (.int .u32 v) wr.heap.size (by omega))).keep (hO2.block wr.heap.size (by omega))
              have hH2 := hH.round (by omega) (by omega) _ _ _ hO1 hO2 hF2 (by omega) (by omega) (by omega)
              clear c0 c1 c2 c3 fz fA1
              obtain ⟨c0, c1, c2, c3, fz⟩ := hF2
              obtain ⟨d0, d1, d2, d3, fz2⟩ := fW
              clear hO1 hO2 hF1 hH fz fz2
              go_wp2_with fail
              go_roundw
              case rel => exact ⟨k + 1, by omega, by go_num, _, _, _, _, hH2⟩
              case measure => simp [intOf]; omega
          · by_cases t0 : y0 ≤ v <;> by_cases t1 : y1 ≤ v <;> by_cases t2 : y3 < v
            · go_wp2_with fail
              refine (sort_2_3 _ v y0 y1 y3 (by omega) (by omega) (by omega) (by omega) (by omega) _ (Four.freshJ _ _ rfl _ _ _ _ _)).mono ?_
              rintro e w1 ⟨rfl, hF1, hO1⟩
              have fA1 := hH.four.keep ((hO1.block (w.heap.size + 1 + 1 + 1 + 1) (by omega)).trans (heap_alloc_lt _ _ _ hA))
              have fA2 := fA1
              clear c0 c1 c2 c3 fz
              obtain ⟨c0, c1, c2, c3, fz⟩ := fA2
              go_wp2_with fail
              refine (zzsettle_2_3 _ v y0 y1 y3 (by omega) (by omega) _ (fA1.set2 v)).mono ?_
              rintro e w2 ⟨rfl, hF2, hO2⟩
              have fW := (hF1.keep (heap_set_ne w1 (w.heap.size + 1 + 1 + 1 + 1) 2 (.int .u32 v) wr.heap.size (by omega))).keep (hO2.block wr.heap.size (by omega))
              have hH2 := hH.round (by omega) (by omega) _ _ _ hO1 hO2 hF2 (by omega) (by omega) (by omega)
              clear c0 c1 c2 c3 fz fA1
              obtain ⟨c0, c1, c2, c3, fz⟩ := hF2
              obtain ⟨d0, d1, d2, d3, fz2⟩ := fW
              clear hO1 hO2 hF1 hH fz fz2
              go_wp2_with fail
              go_roundw
              case rel => exact ⟨k + 1, by omega, by go_num, _, _, _, _, hH2⟩
              case measure => simp [intOf]; omega
            · go_wp2_with fail
              refine (sort_2_2 _ v y0 y1 y3 (by omega) (by omega) (by omega) (by omega) (by omega) _ (Four.freshJ _ _ rfl _ _ _ _ _)).mono ?_
              rintro e w1 ⟨rfl, hF1, hO1⟩
              have fA1 := hH.four.keep ((hO1.block (w.heap.size + 1 + 1 + 1 + 1) (by omega)).trans (heap_alloc_lt _ _ _ hA))
              have fA2 := fA1
              clear c0 c1 c2 c3 fz
              obtain ⟨c0, c1, c2, c3, fz⟩ := fA2
              go_wp2_with fail
              refine (zzsettle_2_2 _ v y0 y1 y3 (by omega) (by omega) _ (fA1.set2 v)).mono ?_
              rintro e w2 ⟨rfl, hF2, hO2⟩
              have fW := (hF1.keep (heap_set_ne w1 (w.heap.size + 1 + 1 + 1 + 1) 2 (.int .u32 v) wr.heap.size (by omega))).keep (hO2.block wr.heap.size (by omega))
              have hH2 := hH.round (by omega) (by omega) _ _ _ hO1 hO2 hF2 (by omega) (by omega) (by omega)
              clear c0 c1 c2 c3 fz fA1
              obtain ⟨c0, c1, c2, c3, fz⟩ := hF2
              obtain ⟨d0, d1, d2, d3, fz2⟩ := fW
              clear hO1 hO2 hF1 hH fz fz2
              go_wp2_with fail
              go_roundw
              case rel => exact ⟨k + 1, by omega, by go_num, _, _, _, _, hH2⟩
              case measure => simp [intOf]; omega
            · exfalso; omega
            · go_wp2_with fail
              refine (sort_2_1 _ v y0 y1 y3 (by omega) (by omega) (by omega) (by omega) (by omega) _ (Four.freshJ _ _ rfl _ _ _ _ _)).mono ?_
              rintro e w1 ⟨rfl, hF1, hO1⟩
              have fA1 := hH.four.keep ((hO1.block (w.heap.size + 1 + 1 + 1 + 1) (by omega)).trans (heap_alloc_lt _ _ _ hA))
              have fA2 := fA1
              clear c0 c1 c2 c3 fz
              obtain ⟨c0, c1, c2, c3, fz⟩ := fA2
              go_wp2_with fail
              refine (zzsettle_2_1 _ v y0 y1 y3 (by omega) (by omega) _ (fA1.set2 v)).mono ?_
              rintro e w2 ⟨rfl, hF2, hO2⟩
              have fW := (hF1.keep (heap_set_ne w1 (w.heap.size + 1 + 1 + 1 + 1) 2 (.int .u32 v) wr.heap.size (by omega))).keep (hO2.block wr.heap.size (by omega))
              have hH2 := hH.round (by omega) (by omega) _ _ _ hO1 hO2 hF2 (by omega) (by omega) (by omega)
              clear c0 c1 c2 c3 fz fA1
              obtain ⟨c0, c1, c2, c3, fz⟩ := hF2
              obtain ⟨d0, d1, d2, d3, fz2⟩ := fW
              clear hO1 hO2 hF1 hH fz fz2
              go_wp2_with fail
              go_roundw
              case rel => exact ⟨k + 1, by omega, by go_num, _, _, _, _, hH2⟩
              case measure => simp [intOf]; omega
            · exfalso; omega
            · exfalso; omega
            · exfalso; omega
            · go_wp2_with fail
              refine (sort_2_0 _ v y0 y1 y3 (by omega) (by omega) (by omega) (by omega) (by omega) _ (Four.freshJ _ _ rfl _ _ _ _ _)).mono ?_
              rintro e w1 ⟨rfl, hF1, hO1⟩
              have fA1 := hH.four.keep ((hO1.block (w.heap.size + 1 + 1 + 1 + 1) (by omega)).trans (heap_alloc_lt _ _ _ hA))
              have fA2 := fA1
              clear c0 c1 c2 c3 fz
              obtain ⟨c0, c1, c2, c3, fz⟩ := fA2
              go_wp2_with fail
              refine (zzsettle_2_0 _ v y0 y1 y3 (by omega) (by omega) _ (fA1.set2 v)).mono ?_
              rintro e w2 ⟨rfl, hF2, hO2⟩
              have fW := (hF1.keep (heap_set_ne w1 (w.heap.size + 1 + 1 + 1 + 1) 2 (.int .u32 v) wr.heap.size (by omega))).keep (hO2.block wr.heap.size (by omega))
              have hH2 := hH.round (by omega) (by omega) _ _ _ hO1 hO2 hF2 (by omega) (by omega) (by omega)
              clear c0 c1 c2 c3 fz fA1
              obtain ⟨c0, c1, c2, c3, fz⟩ := hF2
              obtain ⟨d0, d1, d2, d3, fz2⟩ := fW
              clear hO1 hO2 hF1 hH fz fz2
              go_wp2_with fail
              go_roundw
              case rel => exact ⟨k + 1, by omega, by go_num, _, _, _, _, hH2⟩
              case measure => simp [intOf]; omega
          · by_cases t0 : y0 ≤ v <;> by_cases t1 : y1 ≤ v <;> by_cases t2 : y2 ≤ v
            · go_wp2_with fail
              refine (sort_3_3 _ v y0 y1 y2 (by omega) (by omega) (by omega) (by omega) (by omega) _ (Four.freshJ _ _ rfl _ _ _ _ _)).mono ?_
              rintro e w1 ⟨rfl, hF1, hO1⟩
              have fA1 := hH.four.keep ((hO1.block (w.heap.size + 1 + 1 + 1 + 1) (by omega)).trans (heap_alloc_lt _ _ _ hA))
              have fA2 := fA1
              clear c0 c1 c2 c3 fz
              obtain ⟨c0, c1, c2, c3, fz⟩ := fA2
              go_wp2_with fail
              refine (zzsettle_3_3 _ v y0 y1 y2 (by omega) _ (fA1.set3 v)).mono ?_
              rintro e w2 ⟨rfl, hF2, hO2⟩
              have fW := (hF1.keep (heap_set_ne w1 (w.heap.size + 1 + 1 + 1 + 1) 3 (.int .u32 v) wr.heap.size (by omega))).keep (hO2.block wr.heap.size (by omega))
              have hH2 := hH.round (by omega) (by omega) _ _ _ hO1 hO2 hF2 (by omega) (by omega) (by omega)
              clear c0 c1 c2 c3 fz fA1
              obtain ⟨c0, c1, c2, c3, fz⟩ := hF2
              obtain ⟨d0, d1, d2, d3, fz2⟩ := fW
              clear hO1 hO2 hF1 hH fz fz2
              go_wp2_with fail
              go_roundw
              case rel => exact ⟨k + 1, by omega, by go_num, _, _, _, _, hH2⟩
              case measure => simp [intOf]; omega
            · go_wp2_with fail
              refine (sort_3_2 _ v y0 y1 y2 (by omega) (by omega) (by omega) (by omega) (by omega) _ (Four.freshJ _ _ rfl _ _ _ _ _)).mono ?_
              rintro e w1 ⟨rfl, hF1, hO1⟩
              have fA1 := hH.four.keep ((hO1.block (w.heap.size + 1 + 1 + 1 + 1) (by omega)).trans (heap_alloc_lt _ _ _ hA))
              have fA2 := fA1
              clear c0 c1 c2 c3 fz
              obtain ⟨c0, c1, c2, c3, fz⟩ := fA2
              go_wp2_with fail
              refine (zzsettle_3_2 _ v y0 y1 y2 (by omega) (by omega) _ (fA1.set3 v)).mono ?_
              rintro e w2 ⟨rfl, hF2, hO2⟩
              have fW := (hF1.keep (heap_set_ne w1 (w.heap.size + 1 + 1 + 1 + 1) 3 (.int .u32 v) wr.heap.size (by omega))).keep (hO2.block wr.heap.size (by omega))
              have hH2 := hH.round (by omega) (by omega) _ _ _ hO1 hO2 hF2 (by omega) (by omega) (by omega)
              clear c0 c1 c2 c3 fz fA1
              obtain ⟨c0, c1, c2, c3, fz⟩ := hF2
              obtain ⟨d0, d1, d2, d3, fz2⟩ := fW
              clear hO1 hO2 hF1 hH fz fz2
              go_wp2_with fail
              go_roundw
              case rel => exact ⟨k + 1, by omega, by go_num, _, _, _, _, hH2⟩
              case measure => simp [intOf]; omega
            · exfalso; omega
            · go_wp2_with fail
              refine (sort_3_1 _ v y0 y1 y2 (by omega) (by omega) (by omega) (by omega) (by omega) _ (Four.freshJ _ _ rfl _ _ _ _ _)).mono ?_
              rintro e w1 ⟨rfl, hF1, hO1⟩
              have fA1 := hH.four.keep ((hO1.block (w.heap.size + 1 + 1 + 1 + 1) (by omega)).trans (heap_alloc_lt _ _ _ hA))
              have fA2 := fA1
              clear c0 c1 c2 c3 fz
              obtain ⟨c0, c1, c2, c3, fz⟩ := fA2
              go_wp2_with fail
              refine (zzsettle_3_1 _ v y0 y1 y2 (by omega) (by omega) (by omega) _ (fA1.set3 v)).mono ?_
              rintro e w2 ⟨rfl, hF2, hO2⟩
              have fW := (hF1.keep (heap_set_ne w1 (w.heap.size + 1 + 1 + 1 + 1) 3 (.int .u32 v) wr.heap.size (by omega))).keep (hO2.block wr.heap.size (by omega))
              have hH2 := hH.round (by omega) (by omega) _ _ _ hO1 hO2 hF2 (by omega) (by omega) (by omega)
              clear c0 c1 c2 c3 fz fA1
              obtain ⟨c0, c1, c2, c3, fz⟩ := hF2
              obtain ⟨d0, d1, d2, d3, fz2⟩ := fW
              clear hO1 hO2 hF1 hH fz fz2
              go_wp2_with fail
              go_roundw
              case rel => exact ⟨k + 1, by omega, by go_num, _, _, _, _, hH2⟩
              case measure => simp [intOf]; omega
            · exfalso; omega
            · exfalso; omega
            · exfalso; omega
            · go_wp2_with fail
              refine (sort_3_0 _ v y0 y1 y2 (by omega) (by omega) (by omega) (by omega) (by omega) _ (Four.freshJ _ _ rfl _ _ _ _ _)).mono ?_
              rintro e w1 ⟨rfl, hF1, hO1⟩
              have fA1 := hH.four.keep ((hO1.block (w.heap.size + 1 + 1 + 1 + 1) (by omega)).trans (heap_alloc_lt _ _ _ hA))
              have fA2 := fA1
              clear c0 c1 c2 c3 fz
              obtain ⟨c0, c1, c2, c3, fz⟩ := fA2
              go_wp2_with fail
              refine (zzsettle_3_0 _ v y0 y1 y2 (by omega) (by omega) (by omega) _ (fA1.set3 v)).mono ?_
              rintro e w2 ⟨rfl, hF2, hO2⟩
              have fW := (hF1.keep (heap_set_ne w1 (w.heap.size + 1 + 1 + 1 + 1) 3 (.int .u32 v) wr.heap.size (by omega))).keep (hO2.block wr.heap.size (by omega))
              have hH2 := hH.round (by omega) (by omega) _ _ _ hO1 hO2 hF2 (by omega) (by omega) (by omega)
              clear c0 c1 c2 c3 fz fA1
              obtain ⟨c0, c1, c2, c3, fz⟩ := hF2
              obtain ⟨d0, d1, d2, d3, fz2⟩ := fW
              clear hO1 hO2 hF1 hH fz fz2
              go_wp2_with fail
              go_roundw
              case rel => exact ⟨k + 1, by omega, by go_num, _, _, _, _, hH2⟩
              case measure => simp [intOf]; omega
        · have hB := hH.below
          clear hH
          go_wp2
          go_ret
          exact ⟨rfl, hB⟩
end Go.Proofs.Qxb6600190aMods
