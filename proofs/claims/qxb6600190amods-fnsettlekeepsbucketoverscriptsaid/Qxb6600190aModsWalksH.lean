/- The walks of the script's two first tests: the length bound, 'sorted4'. -/
import Derived.Test.Qxb6600190aModsRows
import Derived.WalkKit
import Derived.WalkSpells
import Derived.Laws.Pointers
namespace Go.Proofs.Qxb6600190aMods
open Go.RowKit
set_option linter.unusedVariables false

/-- Four in ascending order. -/
def srt4 (a b c d : Int) : Bool := decide (a ≤ b ∧ b ≤ c ∧ c ≤ d)
theorem ret_bb {a b : Bool} (h : a = b) : Ending.returned (.bool a) = .returned (.bool b) := by rw [h]

theorem bytes_ok (x0 x1 x2 x3 : Int) (a : Option Addr) (n c : Nat) (h : n ≤ 1048576) (w : World) :
    Calls Trym.prog 17 #[.agg #[.int .u32 x0, .int .u32 x1, .int .u32 x2, .int .u32 x3], .slice a n c] w fun e w' => e = .returned (.bool true) ∧ ∃ c1, w' = w.alloc (.cells c1 30) := by
  have h' : ¬ (1048576 : Int) < (n : Int) := by omega
  go_enter Trym.func17, Trym.ntmps17
  go_wp2
  go_ret
  exact ⟨rfl, _, rfl⟩
theorem bytes_no (x0 x1 x2 x3 : Int) (a : Option Addr) (n c : Nat) (h : 1048576 < n) (w : World) :
    Calls Trym.prog 17 #[.agg #[.int .u32 x0, .int .u32 x1, .int .u32 x2, .int .u32 x3], .slice a n c] w fun e w' => e = .returned (.bool false) ∧ ∃ c1, w' = w.alloc (.cells c1 30) := by
  have h' : (1048576 : Int) < (n : Int) := by omega
  go_enter Trym.func17, Trym.ntmps17
  go_wp2
  go_ret
  exact ⟨rfl, _, rfl⟩
set_option maxHeartbeats 800000 in
theorem sorted4_any (x0 x1 x2 x3 : Int) (w : World) :
    Calls Trym.prog 18 #[.agg #[.int .u32 x0, .int .u32 x1, .int .u32 x2, .int .u32 x3]] w fun e w' => e = .returned (.bool (srt4 x0 x1 x2 x3)) ∧ ∃ c1, w' = w.alloc (.cells c1 30) := by
  by_cases h0 : x0 ≤ x1
  · by_cases h1 : x1 ≤ x2
    · by_cases h2 : x2 ≤ x3
      · have E : Hid (srt4 x0 x1 x2 x3 = true) := decide_eq_true ⟨h0, h1, h2⟩
        go_enter Trym.func18, Trym.ntmps18
        go_wp2
        go_ret
        exact ⟨ret_bb E.out.symm, _, rfl⟩
      · have E : Hid (srt4 x0 x1 x2 x3 = false) := decide_eq_false (fun h => h2 h.2.2)
        have d : decide (x2 ≤ x3) = false := decide_eq_false h2
        go_enter Trym.func18, Trym.ntmps18
        go_wp2
        go_ret
        exact ⟨ret_bb E.out.symm, _, rfl⟩
    · have E : Hid (srt4 x0 x1 x2 x3 = false) := decide_eq_false (fun h => h1 h.2.1)
      have d : decide (x1 ≤ x2) = false := decide_eq_false h1
      go_enter Trym.func18, Trym.ntmps18
      go_wp2
      go_ret
      exact ⟨ret_bb E.out.symm, _, rfl⟩
  · have E : Hid (srt4 x0 x1 x2 x3 = false) := decide_eq_false (fun h => h0 h.1)
    have d : decide (x0 ≤ x1) = false := decide_eq_false h0
    go_enter Trym.func18, Trym.ntmps18
    go_wp2
    go_ret
    exact ⟨ret_bb E.out.symm, _, rfl⟩
end Go.Proofs.Qxb6600190aMods
