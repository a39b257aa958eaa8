/- The walks of 'othersSorted' and of settle's shim. -/
import Derived.Test.Qxb6600190aModsWalksD
namespace Go.Proofs.Qxb6600190aMods
open Go.RowKit
set_option linter.unusedVariables false

/-- Three in ascending order. -/
def srt3 (a b c : Int) : Bool := decide (a ≤ b ∧ b ≤ c)
theorem ret_b {a b : Bool} (h : a = b) : Ending.returned (.bool a) = .returned (.bool b) := by rw [h]

set_option maxHeartbeats 1600000 in
/-- othersSorted, the odd one at place 0 -/
theorem os_0 (v o0 o1 o2 : Int) (w : World) :
    Calls Trym.prog 14 #[.agg #[.int .u32 v, .int .u32 o0, .int .u32 o1, .int .u32 o2], .int .i64 0] w fun e w' => e = .returned (.bool (srt3 o0 o1 o2)) ∧ ∃ c1 c2, w' = (w.alloc (.cells c1 30)).alloc (.cells c2 32) := by
  by_cases h1 : o0 ≤ o1
  · by_cases h2 : o1 ≤ o2
    · have E : Hid (srt3 o0 o1 o2 = true) := decide_eq_true ⟨h1, h2⟩
      go_enter Trym.func14, Trym.ntmps14
      go_wp2
      refine wp_loop_rounds 5 ?_
      iterate 5 (rw [rounds_succ]; go_wp2)
      go_ret
      exact ⟨ret_b E.out.symm, _, _, rfl⟩
    · have E : Hid (srt3 o0 o1 o2 = false) := decide_eq_false (fun h => h2 h.2)
      go_enter Trym.func14, Trym.ntmps14
      go_wp2
      refine wp_loop_rounds 5 ?_
      iterate 5 (rw [rounds_succ]; go_wp2)
      go_ret
      exact ⟨ret_b ((decide_eq_false (by omega)).trans E.out.symm), _, _, rfl⟩
  · have E : Hid (srt3 o0 o1 o2 = false) := decide_eq_false (fun h => h1 h.1)
    go_enter Trym.func14, Trym.ntmps14
    go_wp2
    refine wp_loop_rounds 5 ?_
    iterate 5 (rw [rounds_succ]; go_wp2)
    go_ret
    exact ⟨ret_b E.out.symm, _, _, rfl⟩

set_option maxHeartbeats 1600000 in
/-- othersSorted, the odd one at place 1 -/
theorem os_1 (v o0 o1 o2 : Int) (w : World) :
    Calls Trym.prog 14 #[.agg #[.int .u32 o0, .int .u32 v, .int .u32 o1, .int .u32 o2], .int .i64 1] w fun e w' => e = .returned (.bool (srt3 o0 o1 o2)) ∧ ∃ c1 c2, w' = (w.alloc (.cells c1 30)).alloc (.cells c2 32) := by
  by_cases h1 : o0 ≤ o1
  · by_cases h2 : o1 ≤ o2
    · have E : Hid (srt3 o0 o1 o2 = true) := decide_eq_true ⟨h1, h2⟩
      go_enter Trym.func14, Trym.ntmps14
      go_wp2
      refine wp_loop_rounds 5 ?_
      iterate 5 (rw [rounds_succ]; go_wp2)
      go_ret
      exact ⟨ret_b E.out.symm, _, _, rfl⟩
    · have E : Hid (srt3 o0 o1 o2 = false) := decide_eq_false (fun h => h2 h.2)
      go_enter Trym.func14, Trym.ntmps14
      go_wp2
      refine wp_loop_rounds 5 ?_
      iterate 5 (rw [rounds_succ]; go_wp2)
      go_ret
      exact ⟨ret_b ((decide_eq_false (by omega)).trans E.out.symm), _, _, rfl⟩
  · have E : Hid (srt3 o0 o1 o2 = false) := decide_eq_false (fun h => h1 h.1)
    go_enter Trym.func14, Trym.ntmps14
    go_wp2
    refine wp_loop_rounds 5 ?_
    iterate 5 (rw [rounds_succ]; go_wp2)
    go_ret
    exact ⟨ret_b E.out.symm, _, _, rfl⟩

set_option maxHeartbeats 1600000 in
/-- othersSorted, the odd one at place 2 -/
theorem os_2 (v o0 o1 o2 : Int) (w : World) :
    Calls Trym.prog 14 #[.agg #[.int .u32 o0, .int .u32 o1, .int .u32 v, .int .u32 o2], .int .i64 2] w fun e w' => e = .returned (.bool (srt3 o0 o1 o2)) ∧ ∃ c1 c2, w' = (w.alloc (.cells c1 30)).alloc (.cells c2 32) := by
  by_cases h1 : o0 ≤ o1
  · by_cases h2 : o1 ≤ o2
    · have E : Hid (srt3 o0 o1 o2 = true) := decide_eq_true ⟨h1, h2⟩
      go_enter Trym.func14, Trym.ntmps14
      go_wp2
      refine wp_loop_rounds 5 ?_
      iterate 5 (rw [rounds_succ]; go_wp2)
      go_ret
      exact ⟨ret_b E.out.symm, _, _, rfl⟩
    · have E : Hid (srt3 o0 o1 o2 = false) := decide_eq_false (fun h => h2 h.2)
      go_enter Trym.func14, Trym.ntmps14
      go_wp2
      refine wp_loop_rounds 5 ?_
      iterate 5 (rw [rounds_succ]; go_wp2)
      go_ret
      exact ⟨ret_b ((decide_eq_false (by omega)).trans E.out.symm), _, _, rfl⟩
  · have E : Hid (srt3 o0 o1 o2 = false) := decide_eq_false (fun h => h1 h.1)
    go_enter Trym.func14, Trym.ntmps14
    go_wp2
    refine wp_loop_rounds 5 ?_
    iterate 5 (rw [rounds_succ]; go_wp2)
    go_ret
    exact ⟨ret_b E.out.symm, _, _, rfl⟩

set_option maxHeartbeats 1600000 in
/-- othersSorted, the odd one at place 3 -/
theorem os_3 (v o0 o1 o2 : Int) (w : World) :
    Calls Trym.prog 14 #[.agg #[.int .u32 o0, .int .u32 o1, .int .u32 o2, .int .u32 v], .int .i64 3] w fun e w' => e = .returned (.bool (srt3 o0 o1 o2)) ∧ ∃ c1 c2, w' = (w.alloc (.cells c1 30)).alloc (.cells c2 32) := by
  by_cases h1 : o0 ≤ o1
  · by_cases h2 : o1 ≤ o2
    · have E : Hid (srt3 o0 o1 o2 = true) := decide_eq_true ⟨h1, h2⟩
      go_enter Trym.func14, Trym.ntmps14
      go_wp2
      refine wp_loop_rounds 5 ?_
      iterate 5 (rw [rounds_succ]; go_wp2)
      go_ret
      exact ⟨ret_b E.out.symm, _, _, rfl⟩
    · have E : Hid (srt3 o0 o1 o2 = false) := decide_eq_false (fun h => h2 h.2)
      go_enter Trym.func14, Trym.ntmps14
      go_wp2
      refine wp_loop_rounds 5 ?_
      iterate 5 (rw [rounds_succ]; go_wp2)
      go_ret
      exact ⟨ret_b ((decide_eq_false (by omega)).trans E.out.symm), _, _, rfl⟩
  · have E : Hid (srt3 o0 o1 o2 = false) := decide_eq_false (fun h => h1 h.1)
    go_enter Trym.func14, Trym.ntmps14
    go_wp2
    refine wp_loop_rounds 5 ?_
    iterate 5 (rw [rounds_succ]; go_wp2)
    go_ret
    exact ⟨ret_b E.out.symm, _, _, rfl⟩

theorem zzsettle_0_0 (b : Nat) (v o0 o1 o2 : Int) (h0 : ¬ o0 < v) (w : World) (hF : Four b w v o0 o1 o2) :
    Calls Trym.prog 15 #[.pointer (some ⟨b, 0, none⟩), .int .i64 0] w fun e w' => e = .returned (.int .i64 0) ∧ Four b w' v o0 o1 o2 ∧ Only b w w' := by
  have C := settle_0_0 b v o0 o1 o2 h0 w hF
  clear hF h0
  go_enter Trym.func15, Trym.ntmps15
  go_wp2_with fail
  refine C.mono ?_
  rintro e w' ⟨rfl, h1, h2⟩
  clear C
  go_wp2_with fail
  go_ret
  exact ⟨rfl, h1, h2⟩
theorem zzsettle_0_1 (b : Nat) (v o0 o1 o2 : Int) (h0 : o0 < v) (h1 : ¬ o1 < v) (w : World) (hF : Four b w v o0 o1 o2) :
    Calls Trym.prog 15 #[.pointer (some ⟨b, 0, none⟩), .int .i64 0] w fun e w' => e = .returned (.int .i64 1) ∧ Four b w' o0 v o1 o2 ∧ Only b w w' := by
  have C := settle_0_1 b v o0 o1 o2 h0 h1 w hF
  clear hF h0 h1
  go_enter Trym.func15, Trym.ntmps15
  go_wp2_with fail
  refine C.mono ?_
  rintro e w' ⟨rfl, h1, h2⟩
  clear C
  go_wp2_with fail
  go_ret
  exact ⟨rfl, h1, h2⟩
theorem zzsettle_0_2 (b : Nat) (v o0 o1 o2 : Int) (h0 : o0 < v) (h1 : o1 < v) (h2 : ¬ o2 < v) (w : World) (hF : Four b w v o0 o1 o2) :
    Calls Trym.prog 15 #[.pointer (some ⟨b, 0, none⟩), .int .i64 0] w fun e w' => e = .returned (.int .i64 2) ∧ Four b w' o0 o1 v o2 ∧ Only b w w' := by
  have C := settle_0_2 b v o0 o1 o2 h0 h1 h2 w hF
  clear hF h0 h1 h2
  go_enter Trym.func15, Trym.ntmps15
  go_wp2_with fail
  refine C.mono ?_
  rintro e w' ⟨rfl, h1, h2⟩
  clear C
  go_wp2_with fail
  go_ret
  exact ⟨rfl, h1, h2⟩
theorem zzsettle_0_3 (b : Nat) (v o0 o1 o2 : Int) (h0 : o0 < v) (h1 : o1 < v) (h2 : o2 < v) (w : World) (hF : Four b w v o0 o1 o2) :
    Calls Trym.prog 15 #[.pointer (some ⟨b, 0, none⟩), .int .i64 0] w fun e w' => e = .returned (.int .i64 3) ∧ Four b w' o0 o1 o2 v ∧ Only b w w' := by
  have C := settle_0_3 b v o0 o1 o2 h0 h1 h2 w hF
  clear hF h0 h1 h2
  go_enter Trym.func15, Trym.ntmps15
  go_wp2_with fail
  refine C.mono ?_
  rintro e w' ⟨rfl, h1, h2⟩
  clear C
  go_wp2_with fail
  go_ret
  exact ⟨rfl, h1, h2⟩
theorem zzsettle_1_0 (b : Nat) (v o0 o1 o2 : Int) (h0 : v < o0) (w : World) (hF : Four b w o0 v o1 o2) :
    Calls Trym.prog 15 #[.pointer (some ⟨b, 0, none⟩), .int .i64 1] w fun e w' => e = .returned (.int .i64 0) ∧ Four b w' v o0 o1 o2 ∧ Only b w w' := by
  have C := settle_1_0 b v o0 o1 o2 h0 w hF
  clear hF h0
  go_enter Trym.func15, Trym.ntmps15
  go_wp2_with fail
  refine C.mono ?_
  rintro e w' ⟨rfl, h1, h2⟩
  clear C
  go_wp2_with fail
  go_ret
  exact ⟨rfl, h1, h2⟩
theorem zzsettle_1_1 (b : Nat) (v o0 o1 o2 : Int) (h0 : ¬ v < o0) (h1 : ¬ o1 < v) (w : World) (hF : Four b w o0 v o1 o2) :
    Calls Trym.prog 15 #[.pointer (some ⟨b, 0, none⟩), .int .i64 1] w fun e w' => e = .returned (.int .i64 1) ∧ Four b w' o0 v o1 o2 ∧ Only b w w' := by
  have C := settle_1_1 b v o0 o1 o2 h0 h1 w hF
  clear hF h0 h1
  go_enter Trym.func15, Trym.ntmps15
  go_wp2_with fail
  refine C.mono ?_
  rintro e w' ⟨rfl, h1, h2⟩
  clear C
  go_wp2_with fail
  go_ret
  exact ⟨rfl, h1, h2⟩
theorem zzsettle_1_2 (b : Nat) (v o0 o1 o2 : Int) (h0 : ¬ v < o0) (h1 : o1 < v) (h2 : ¬ o2 < v) (w : World) (hF : Four b w o0 v o1 o2) :
    Calls Trym.prog 15 #[.pointer (some ⟨b, 0, none⟩), .int .i64 1] w fun e w' => e = .returned (.int .i64 2) ∧ Four b w' o0 o1 v o2 ∧ Only b w w' := by
  have C := settle_1_2 b v o0 o1 o2 h0 h1 h2 w hF
  clear hF h0 h1 h2
  go_enter Trym.func15, Trym.ntmps15
  go_wp2_with fail
  refine C.mono ?_
  rintro e w' ⟨rfl, h1, h2⟩
  clear C
  go_wp2_with fail
  go_ret
  exact ⟨rfl, h1, h2⟩
theorem zzsettle_1_3 (b : Nat) (v o0 o1 o2 : Int) (h0 : ¬ v < o0) (h1 : o1 < v) (h2 : o2 < v) (w : World) (hF : Four b w o0 v o1 o2) :
    Calls Trym.prog 15 #[.pointer (some ⟨b, 0, none⟩), .int .i64 1] w fun e w' => e = .returned (.int .i64 3) ∧ Four b w' o0 o1 o2 v ∧ Only b w w' := by
  have C := settle_1_3 b v o0 o1 o2 h0 h1 h2 w hF
  clear hF h0 h1 h2
  go_enter Trym.func15, Trym.ntmps15
  go_wp2_with fail
  refine C.mono ?_
  rintro e w' ⟨rfl, h1, h2⟩
  clear C
  go_wp2_with fail
  go_ret
  exact ⟨rfl, h1, h2⟩
theorem zzsettle_2_0 (b : Nat) (v o0 o1 o2 : Int) (h0 : v < o0) (h1 : v < o1) (w : World) (hF : Four b w o0 o1 v o2) :
    Calls Trym.prog 15 #[.pointer (some ⟨b, 0, none⟩), .int .i64 2] w fun e w' => e = .returned (.int .i64 0) ∧ Four b w' v o0 o1 o2 ∧ Only b w w' := by
  have C := settle_2_0 b v o0 o1 o2 h0 h1 w hF
  clear hF h0 h1
  go_enter Trym.func15, Trym.ntmps15
  go_wp2_with fail
  refine C.mono ?_
  rintro e w' ⟨rfl, h1, h2⟩
  clear C
  go_wp2_with fail
  go_ret
  exact ⟨rfl, h1, h2⟩
theorem zzsettle_2_1 (b : Nat) (v o0 o1 o2 : Int) (h0 : v < o1) (h1 : ¬ v < o0) (w : World) (hF : Four b w o0 o1 v o2) :
    Calls Trym.prog 15 #[.pointer (some ⟨b, 0, none⟩), .int .i64 2] w fun e w' => e = .returned (.int .i64 1) ∧ Four b w' o0 v o1 o2 ∧ Only b w w' := by
  have C := settle_2_1 b v o0 o1 o2 h0 h1 w hF
  clear hF h0 h1
  go_enter Trym.func15, Trym.ntmps15
  go_wp2_with fail
  refine C.mono ?_
  rintro e w' ⟨rfl, h1, h2⟩
  clear C
  go_wp2_with fail
  go_ret
  exact ⟨rfl, h1, h2⟩
theorem zzsettle_2_2 (b : Nat) (v o0 o1 o2 : Int) (h0 : ¬ v < o1) (h1 : ¬ o2 < v) (w : World) (hF : Four b w o0 o1 v o2) :
    Calls Trym.prog 15 #[.pointer (some ⟨b, 0, none⟩), .int .i64 2] w fun e w' => e = .returned (.int .i64 2) ∧ Four b w' o0 o1 v o2 ∧ Only b w w' := by
  have C := settle_2_2 b v o0 o1 o2 h0 h1 w hF
  clear hF h0 h1
  go_enter Trym.func15, Trym.ntmps15
  go_wp2_with fail
  refine C.mono ?_
  rintro e w' ⟨rfl, h1, h2⟩
  clear C
  go_wp2_with fail
  go_ret
  exact ⟨rfl, h1, h2⟩
theorem zzsettle_2_3 (b : Nat) (v o0 o1 o2 : Int) (h0 : ¬ v < o1) (h1 : o2 < v) (w : World) (hF : Four b w o0 o1 v o2) :
    Calls Trym.prog 15 #[.pointer (some ⟨b, 0, none⟩), .int .i64 2] w fun e w' => e = .returned (.int .i64 3) ∧ Four b w' o0 o1 o2 v ∧ Only b w w' := by
  have C := settle_2_3 b v o0 o1 o2 h0 h1 w hF
  clear hF h0 h1
  go_enter Trym.func15, Trym.ntmps15
  go_wp2_with fail
  refine C.mono ?_
  rintro e w' ⟨rfl, h1, h2⟩
  clear C
  go_wp2_with fail
  go_ret
  exact ⟨rfl, h1, h2⟩
theorem zzsettle_3_0 (b : Nat) (v o0 o1 o2 : Int) (h0 : v < o0) (h1 : v < o1) (h2 : v < o2) (w : World) (hF : Four b w o0 o1 o2 v) :
    Calls Trym.prog 15 #[.pointer (some ⟨b, 0, none⟩), .int .i64 3] w fun e w' => e = .returned (.int .i64 0) ∧ Four b w' v o0 o1 o2 ∧ Only b w w' := by
  have C := settle_3_0 b v o0 o1 o2 h0 h1 h2 w hF
  clear hF h0 h1 h2
  go_enter Trym.func15, Trym.ntmps15
  go_wp2_with fail
  refine C.mono ?_
  rintro e w' ⟨rfl, h1, h2⟩
  clear C
  go_wp2_with fail
  go_ret
  exact ⟨rfl, h1, h2⟩
theorem zzsettle_3_1 (b : Nat) (v o0 o1 o2 : Int) (h0 : v < o1) (h1 : v < o2) (h2 : ¬ v < o0) (w : World) (hF : Four b w o0 o1 o2 v) :
    Calls Trym.prog 15 #[.pointer (some ⟨b, 0, none⟩), .int .i64 3] w fun e w' => e = .returned (.int .i64 1) ∧ Four b w' o0 v o1 o2 ∧ Only b w w' := by
  have C := settle_3_1 b v o0 o1 o2 h0 h1 h2 w hF
  clear hF h0 h1 h2
  go_enter Trym.func15, Trym.ntmps15
  go_wp2_with fail
  refine C.mono ?_
  rintro e w' ⟨rfl, h1, h2⟩
  clear C
  go_wp2_with fail
  go_ret
  exact ⟨rfl, h1, h2⟩
theorem zzsettle_3_2 (b : Nat) (v o0 o1 o2 : Int) (h0 : v < o2) (h1 : ¬ v < o1) (w : World) (hF : Four b w o0 o1 o2 v) :
    Calls Trym.prog 15 #[.pointer (some ⟨b, 0, none⟩), .int .i64 3] w fun e w' => e = .returned (.int .i64 2) ∧ Four b w' o0 o1 v o2 ∧ Only b w w' := by
  have C := settle_3_2 b v o0 o1 o2 h0 h1 w hF
  clear hF h0 h1
  go_enter Trym.func15, Trym.ntmps15
  go_wp2_with fail
  refine C.mono ?_
  rintro e w' ⟨rfl, h1, h2⟩
  clear C
  go_wp2_with fail
  go_ret
  exact ⟨rfl, h1, h2⟩
theorem zzsettle_3_3 (b : Nat) (v o0 o1 o2 : Int) (h0 : ¬ v < o2) (w : World) (hF : Four b w o0 o1 o2 v) :
    Calls Trym.prog 15 #[.pointer (some ⟨b, 0, none⟩), .int .i64 3] w fun e w' => e = .returned (.int .i64 3) ∧ Four b w' o0 o1 o2 v ∧ Only b w w' := by
  have C := settle_3_3 b v o0 o1 o2 h0 w hF
  clear hF h0
  go_enter Trym.func15, Trym.ntmps15
  go_wp2_with fail
  refine C.mono ?_
  rintro e w' ⟨rfl, h1, h2⟩
  clear C
  go_wp2_with fail
  go_ret
  exact ⟨rfl, h1, h2⟩
end Go.Proofs.Qxb6600190aMods
