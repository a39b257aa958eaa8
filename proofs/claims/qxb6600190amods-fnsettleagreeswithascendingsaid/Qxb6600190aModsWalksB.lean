/- The walks of 'ascending' and its shim. -/
import Derived.Test.Qxb6600190aModsRows
import Derived.Test.Qxb6600190aModsPlainB
import Derived.WalkKit
import Derived.WalkSpells
import Derived.LoopN
import Derived.Deep.QuietTactic
import Derived.BigQuiet
namespace Go.Proofs.Qxb6600190aMods
open Go.RowKit
set_option linter.unusedVariables false

theorem ret_bool {a b : Bool} (h : a = b) : Ending.returned (.bool a) = .returned (.bool b) := by rw [h]

set_option maxHeartbeats 1600000 in
/-- ascending, over a word of its nibbles -/
theorem asc_core (n x0 x1 x2 x3 : Int) (e0 : bits .and .u16 n 15 = x0) (e1 : bits .and .u16 (n / 16) 15 = x1) (e2 : bits .and .u16 (n / 256) 15 = x2) (e3 : bits .and .u16 (n / 4096) 15 = x3) (h0 : 0 ≤ n) (h1 : n ≤ 65535) (w : World) :
    Calls Trym.prog 22 #[.int .u16 n] w fun e w' => e = .returned (.bool (ascB x0 x1 x2 x3)) ∧ ∃ q, w' = w.drewN q := by
  by_cases t1 : x1 < x0
  · have E : Hid (ascB x0 x1 x2 x3 = false) := decide_eq_false (by omega)
    go_enter Trym.func22, Trym.ntmps22
    go_wp2
    refine wp_loop_rounds 4 ?_
    rw [rounds_succ]
    go_wp2
    go_quiet (fail)
    go_wp2
    go_ret
    exact ⟨ret_bool E.out.symm, _, rfl⟩
  by_cases t2 : x2 < x1
  · have E : Hid (ascB x0 x1 x2 x3 = false) := decide_eq_false (by omega)
    go_enter Trym.func22, Trym.ntmps22
    go_wp2
    refine wp_loop_rounds 4 ?_
    rw [rounds_succ]
    go_wp2
    go_quiet (fail)
    go_wp2
    rw [rounds_succ]
    go_wp2
    go_quiet (fail)
    go_wp2
    go_ret
    exact ⟨ret_bool E.out.symm, _, World.drewN_drewN _ _ _⟩
  by_cases t3 : x3 < x2
  · have E : Hid (ascB x0 x1 x2 x3 = false) := decide_eq_false (by omega)
    go_enter Trym.func22, Trym.ntmps22
    go_wp2
    refine wp_loop_rounds 4 ?_
    rw [rounds_succ]
    go_wp2
    go_quiet (fail)
    go_wp2
    rw [rounds_succ]
    go_wp2
    go_quiet (fail)
    go_wp2
    rw [rounds_succ]
    go_wp2
    go_quiet (fail)
    go_wp2
    go_ret
    exact ⟨ret_bool E.out.symm, _, World.drewN_drewN _ _ _⟩
  · have E : Hid (ascB x0 x1 x2 x3 = true) := decide_eq_true (by omega)
    go_enter Trym.func22, Trym.ntmps22
    go_wp2
    refine wp_loop_rounds 4 ?_
    rw [rounds_succ]
    go_wp2
    go_quiet (fail)
    go_wp2
    rw [rounds_succ]
    go_wp2
    go_quiet (fail)
    go_wp2
    rw [rounds_succ]
    go_wp2
    go_quiet (fail)
    go_wp2
    rw [rounds_succ]
    go_wp2
    go_ret
    exact ⟨ret_bool E.out.symm, _, rfl⟩

/-- ZZAscending: the answer for a word of nibbles -/
theorem zzasc_any (x0 x1 x2 x3 : Int) (h0 : Nib x0) (h1 : Nib x1) (h2 : Nib x2) (h3 : Nib x3) (w : World) :
    Calls Trym.prog 13 #[.int .u16 (word x0 x1 x2 x3)] w fun e w' => e = .returned (.bool (ascB x0 x1 x2 x3)) ∧ ∃ q, w' = w.drewN q := by
  obtain ⟨b0, b1⟩ := word_bd h0 h1 h2 h3
  have e0 := word_nib0 h0 h1 h2 h3
  have e1 := word_nib1 h0 h1 h2 h3
  have e2 := word_nib2 h0 h1 h2 h3
  have e3 := word_nib3 h0 h1 h2 h3
  clear h0 h1 h2 h3
  generalize word x0 x1 x2 x3 = n at *
  have C := asc_core n x0 x1 x2 x3 e0 e1 e2 e3 b0 b1
  clear e0 e1 e2 e3
  go_enter Trym.func13, Trym.ntmps13
  go_wp2_with fail
  refine (C _).mono ?_
  rintro e w' ⟨rfl, q, rfl⟩
  go_wp2_with fail
  go_ret
  exact ⟨rfl, _, rfl⟩
theorem zzasc_n (n x0 x1 x2 x3 : Int) (hn : n = word x0 x1 x2 x3) (h0 : Nib x0) (h1 : Nib x1) (h2 : Nib x2) (h3 : Nib x3) (w : World) :
    Calls Trym.prog 13 #[.int .u16 n] w fun e w' => e = .returned (.bool (ascB x0 x1 x2 x3)) ∧ ∃ q, w' = w.drewN q := by
  subst hn; exact zzasc_any x0 x1 x2 x3 h0 h1 h2 h3 w
end Go.Proofs.Qxb6600190aMods
