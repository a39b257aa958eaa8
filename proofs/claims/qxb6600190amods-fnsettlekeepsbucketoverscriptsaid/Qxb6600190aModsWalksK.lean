/- FnSettleKeepsBucketOverScript: every input. -/
import Derived.Test.Qxb6600190aModsWalksJ
import Derived.OpenShut
import Derived.WideShapes
namespace Go.Proofs.Qxb6600190aMods
open Go.RowKit Go.WideShapes
set_option linter.unusedVariables false

/-- What the walk is told of a slice of integers that came in. -/
def IsRow (k : IntKind) (w : World) (a : Option Addr) (len cap : Nat) (zs : List Int) : Prop :=
  (a = none ∧ len = 0 ∧ cap = 0 ∧ zs = []) ∨
  ∃ x, a = some x ∧ len ≤ cap ∧ cap ≤ maxLen ∧ zs.length = cap ∧ (∀ i, i < zs.length → w.cell? (x.add i) = some (.int k (zs.getD i 0))) ∧ ∀ n ∈ zs, (Lit.int k n).wf = true

set_option maxHeartbeats 1600000 in
theorem f10_long (x0 x1 x2 x3 : Int) (a : Option Addr) (n cap : Nat) (h : 1048576 < n) (w : World) :
    Calls Trym.prog 10 #[.agg #[.int .u32 x0, .int .u32 x1, .int .u32 x2, .int .u32 x3], .slice a n cap] w fun e w' => e = .returned (.bool true) ∧ Below w.heap.size w w' := by
  go_enter Trym.func10, Trym.ntmps10
  go_wp2_with fail
  refine (bytes_no x0 x1 x2 x3 _ n cap h _).mono ?_
  rintro e w' ⟨rfl, k1, rfl⟩
  go_wp2_with fail
  go_ret
  exact ⟨rfl, ((Below.refl _ _).alloc (Nat.le_refl _) _).alloc (by simp) _⟩
set_option maxHeartbeats 1600000 in
theorem f10_mid (x0 x1 x2 x3 : Int) (a : Option Addr) (n cap : Nat) (h : n ≤ 1048576) (h' : 4096 < n) (w : World) :
    Calls Trym.prog 10 #[.agg #[.int .u32 x0, .int .u32 x1, .int .u32 x2, .int .u32 x3], .slice a n cap] w fun e w' => e = .returned (.bool true) ∧ Below w.heap.size w w' := by
  have hn1 : (4096 : Int) < (n : Int) := by omega
  go_enter Trym.func10, Trym.ntmps10
  go_wp2_with fail
  refine (bytes_ok x0 x1 x2 x3 _ n cap h _).mono ?_
  rintro e w' ⟨rfl, k1, rfl⟩
  go_wp2_with fail
  go_ret
  exact ⟨rfl, ((Below.refl _ _).alloc (Nat.le_refl _) _).alloc (by simp) _⟩
set_option maxHeartbeats 1600000 in
theorem f10_unsorted (x0 x1 x2 x3 : Int) (a : Option Addr) (n cap : Nat) (hs : srt4 x0 x1 x2 x3 = false) (h : n ≤ 4096) (w : World) :
    Calls Trym.prog 10 #[.agg #[.int .u32 x0, .int .u32 x1, .int .u32 x2, .int .u32 x3], .slice a n cap] w fun e w' => e = .returned (.bool true) ∧ Below w.heap.size w w' := by
  have hn1 : ¬ (4096 : Int) < (n : Int) := by omega
  go_enter Trym.func10, Trym.ntmps10
  go_wp2_with fail
  refine (bytes_ok x0 x1 x2 x3 _ n cap (by omega) _).mono ?_
  rintro e w' ⟨rfl, k1, rfl⟩
  go_wp2_with fail
  refine (sorted4_any x0 x1 x2 x3 _).mono ?_
  rintro e w' ⟨rfl, k2, rfl⟩
  go_wp2_with fail
  go_ret
  exact ⟨rfl, (((Below.refl _ _).alloc (Nat.le_refl _) _).alloc (by simp) _).alloc (by simp; omega) _⟩
set_option maxHeartbeats 1600000 in
theorem f10_nil (x0 x1 x2 x3 : Int) (cap : Nat) (hs : srt4 x0 x1 x2 x3 = true) (w : World) :
    Calls Trym.prog 10 #[.agg #[.int .u32 x0, .int .u32 x1, .int .u32 x2, .int .u32 x3], .slice none 0 cap] w fun e w' => e = .returned (.bool true) ∧ Below w.heap.size w w' := by
  have hnil := fun wx a n c => run_neq_slice_nil_any (P := Trym.prog) wx 36 22 a n c 0 0 Trym.underlying36
  go_enter Trym.func10, Trym.ntmps10
  go_wp2_with fail
  refine (bytes_ok x0 x1 x2 x3 _ 0 cap (by omega) _).mono ?_
  rintro e w' ⟨rfl, k1, rfl⟩
  go_wp2_with fail
  refine (sorted4_any x0 x1 x2 x3 _).mono ?_
  rintro e w' ⟨rfl, k2, rfl⟩
  go_wp2_with fail
  refine wp_loop_rounds 1 ?_
  rw [rounds_succ]
  go_wp2
  go_ret
  exact ⟨rfl, ((((Below.refl _ _).alloc (Nat.le_refl _) _).alloc (by simp) _).alloc (by simp; omega) _).alloc (by simp; omega) _⟩
set_option maxHeartbeats 1600000 in
theorem f10_empty (x0 x1 x2 x3 : Int) (a : Addr) (cap : Nat) (hs : srt4 x0 x1 x2 x3 = true) (w : World) :
    Calls Trym.prog 10 #[.agg #[.int .u32 x0, .int .u32 x1, .int .u32 x2, .int .u32 x3], .slice (some a) 0 cap] w fun e w' => e = .returned (.bool true) ∧ Below w.heap.size w w' := by
  have hnil := fun wx a n c => run_neq_slice_nil_any (P := Trym.prog) wx 36 22 a n c 0 0 Trym.underlying36
  have hmk := run_make_row' (P := Trym.prog) 36 22 (.int .u64 0) 8 Trym.underlying36 info22 rfl .i64 .i64 0 (by omega) (by omega)
  rw [show ((0 : Nat) : Int) = 0 from rfl] at hmk
  go_enter Trym.func10, Trym.ntmps10
  go_wp2_with fail
  refine (bytes_ok x0 x1 x2 x3 _ 0 cap (by omega) _).mono ?_
  rintro e w' ⟨rfl, k1, rfl⟩
  go_wp2_with fail
  refine (sorted4_any x0 x1 x2 x3 _).mono ?_
  rintro e w' ⟨rfl, k2, rfl⟩
  go_wp2_with fail
  refine wp_loop_rounds 1 ?_
  rw [rounds_succ]
  go_wp2
  refine wp_loop_rounds 1 ?_
  rw [rounds_succ]
  go_wp2
  go_ret
  exact ⟨rfl, (((((Below.refl _ _).alloc (Nat.le_refl _) _).alloc (by simp) _).alloc (by simp; omega) _).alloc (by simp; omega) _).alloc (by simp; omega) _⟩

theorem cell_lt {w : World} {b o : Nat} {v : Value} (h : w.cell? ⟨b, o, none⟩ = some v) : b < w.heap.size := by
  rcases Nat.lt_or_ge b w.heap.size with hb | hb
  · exact hb
  · have e : w.heap[b]? = none := Array.getElem?_eq_none hb
    simp [World.cell?, e] at h

theorem f10_any (x0 x1 x2 x3 : Int) (a : Option Addr) (n cap : Nat) (zs : List Int) (w : World) (hw : IsRow .u64 w a n cap zs) :
    Calls Trym.prog 10 #[.agg #[.int .u32 x0, .int .u32 x1, .int .u32 x2, .int .u32 x3], .slice a n cap] w fun e w' => e = .returned (.bool true) ∧ Below w.heap.size w w' := by
  by_cases h1 : 1048576 < n
  · exact f10_long x0 x1 x2 x3 a n cap h1 w
  by_cases h2 : 4096 < n
  · exact f10_mid x0 x1 x2 x3 a n cap (by omega) h2 w
  cases hs : srt4 x0 x1 x2 x3 with
  | false => exact f10_unsorted x0 x1 x2 x3 a n cap hs (by omega) w
  | true =>
    rcases hw with ⟨rfl, rfl, rfl, rfl⟩ | ⟨x, rfl, hl, hm, hz, hcell, hwz⟩
    · exact f10_nil x0 x1 x2 x3 0 hs w
    · by_cases h0 : n = 0
      · subst h0; exact f10_empty x0 x1 x2 x3 x cap hs w
      · obtain ⟨b, off, spot⟩ := x
        have hc0 := hcell 0 (by omega)
        have hspot : spot = none := by simpa [Addr.add] using World.cell?_spot hc0
        subst hspot
        have hb : b < w.heap.size := by
          have : w.cell? ⟨b, off, none⟩ = some (.int .u64 (zs.getD 0 0)) := by simpa [Addr.add] using hc0
          exact cell_lt this
        refine f10_some x0 x1 x2 x3 b off n cap hs (by omega) w (fun j hj => ?_) hb
        refine ⟨zs.getD j 0, by rw [← add_plain]; exact hcell j (by omega), ?_⟩
        have hj' : j < zs.length := by omega
        have := bounds_u64 (hwz (zs.getD j 0) (by rw [List.getD_eq_getElem?_getD, List.getElem?_eq_getElem hj']; exact List.getElem_mem hj'))
        exact this
end Go.Proofs.Qxb6600190aMods
