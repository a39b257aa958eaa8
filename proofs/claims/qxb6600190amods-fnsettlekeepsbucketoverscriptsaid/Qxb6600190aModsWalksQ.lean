/- Two arrays of four uint32 compared by '==' and '!='. -/
import Derived.Test.Qxb6600190aModsRows
import Derived.ChangeKeysEq
import Derived.Laws.StructEq
namespace Go.Proofs.Qxb6600190aMods
set_option linter.unusedVariables false

/-- The two arrays are the same, cell by cell. -/
def beq4 (x0 x1 x2 x3 y0 y1 y2 y3 : Int) : Bool := x0 == y0 && (x1 == y1 && (x2 == y2 && x3 == y3))
theorem beq4_same (x0 x1 x2 x3 : Int) : beq4 x0 x1 x2 x3 x0 x1 x2 x3 = true := by simp [beq4]

theorem info29b : (Trym.prog.info? 29).isSome = true := by kernel_rfl
theorem info29 : ∃ i, Trym.prog.info? 29 = some i := Option.isSome_iff_exists.1 info29b
theorem cells29 : Trym.prog.cellsOf 29 = 1 := by kernel_rfl
theorem run_eq4 (x0 x1 x2 x3 y0 y1 y2 y3 : Int) (w : World) :
    (Op.equalIn 10000 30 (.agg #[.int .u32 x0, .int .u32 x1, .int .u32 x2, .int .u32 x3]) (.agg #[.int .u32 y0, .int .u32 y1, .int .u32 y2, .int .u32 y3])).run Trym.prog w = .ok (beq4 x0 x1 x2 x3 y0 y1 y2 y3) w := by
  obtain ⟨i, hi⟩ := info29
  have h := run_equalIn_array (P := Trym.prog) w 9999 #[.int .u32 x0, .int .u32 x1, .int .u32 x2, .int .u32 x3] #[.int .u32 y0, .int .u32 y1, .int .u32 y2, .int .u32 y3] Trym.underlying30 hi
  refine h.trans ?_
  have pe : ∀ (a b : Int) (w : World), (Op.equalIn 9999 29 (.int .u32 a) (.int .u32 b)).run Trym.prog w = .ok (a == b) w := fun a b w => run_equalIn_int w 9998 29 .u32 .u32 a b Trym.underlying29
  rw [cells29, show List.range 4 = [0, 1, 2, 3] from rfl]
  simp only [Op.eqItems, Sem.run_bind]
  simp [part, isAgg, run_underlying Trym.underlying29, pe, beq4]
  by_cases a0 : x0 = y0 <;> by_cases a1 : x1 = y1 <;> by_cases a2 : x2 = y2 <;> by_cases a3 : x3 = y3 <;> simp [a0, a1, a2, a3]
end Go.Proofs.Qxb6600190aMods
