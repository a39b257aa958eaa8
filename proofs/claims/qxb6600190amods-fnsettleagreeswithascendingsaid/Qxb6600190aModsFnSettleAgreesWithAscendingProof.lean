/- FnSettleAgreesWithAscending: an array of four by value, and an int. The frame is turned from the guide's own shell and from its worked array row. -/
import Derived.Test.Qxb6600190aModsRows
import Derived.WalkKit
import Derived.ProofKit
import Derived.OpenShut
import Derived.ShutString
import Derived.Laws.IdiomArrays
import Derived.Test.Qxb6600190aModsWalksI
namespace Go.Proofs.Qxb6600190aMods.fnSettleAgreesWithAscending
open Go.ChangeShapes Go.WideShapes Go.ChangeAt Go.RowKit
set_option linter.unusedVariables false

theorem own : ownKnob Trym.prog.godebug = none := by kernel_rfl
theorem cells29 : Trym.prog.cellsOf 29 = 1 := by kernel_rfl
theorem cells30 : Trym.prog.cellsOf 30 = 4 := by kernel_rfl
theorem list4 {α : Type} (l : List α) (h : (⟨l⟩ : Array α).size = 4) : ∃ a b c d, l = [a, b, c, d] := by
  match l, h with
  | [a, b, c, d], _ => exact ⟨a, b, c, d, rfl⟩
/-- The array reads again as it read. -/
theorem again {H : Type} {enc : TypeId × Value → H} (W : World) (sp : Nat → Bool) (x0 x1 x2 x3 : Int) (w0 : (Lit.int .u32 x0).wf = true) (w1 : (Lit.int .u32 x1).wf = true) (w2 : (Lit.int .u32 x2).wf = true) (w3 : (Lit.int .u32 x3).wf = true) :
    DataW.Trod enc Trym.prog W 0 sp true 30 (.agg #[.int .u32 x0, .int .u32 x1, .int .u32 x2, .int .u32 x3]) (DataW.agg [.lit (.int .u32 x0), .lit (.int .u32 x1), .lit (.int .u32 x2), .lit (.int .u32 x3)] : DataW H) [] :=
  ⟨2, by simp [DataW.trod, Value.cells, Trym.underlying30, Trym.underlying29, cells30, cells29, w0, w1, w2, w3, show List.range 4 = [0, 1, 2, 3] from rfl]⟩

set_option maxHeartbeats 800000 in
set_option maxRecDepth 100000 in
theorem lifted (os : Os) (started : os.Started) (H : Type) (enc : TypeId × Value → H) :
    ReturnsInHanded {} Trym.checked os 9 .any (Rows.fnSettleAgreesWithAscendingSpec.pre6 enc Trym.prog Trym.f9 Rows.fnSettleAgreesWithAscendingRow.domain false) (Rows.fnSettleAgreesWithAscendingSpec.post enc Trym.prog Trym.f9 false true false false) := by
  refine returnsInHanded_of_change (C := Trym.checked) own started (by kernel_rfl) Trym.func9
    (ChangeSpec.witness6 (enc := enc) (C := Trym.checked) false ⟨#[], #[.agg #[.int .u32 0, .int .u32 0, .int .u32 0, .int .u32 0], .int .i64 0], []⟩ 8 (by kernel_rfl) (by kernel_rfl) (by kernel_rfl) (by kernel_rfl)) ?_
  intro W base args ds gs before hval0 hW hcnd _
  have hval : ∀ (j : Nat) t v, Trym.f9.params[j]? = some t → args[j]? = some v → Value.okWide Trym.prog W .any base t v := hval0
  have hW' := hW
  obtain ⟨p, q, hA0, hV, rfl, hfz, hnd⟩ := hW
  have hA : DataW.TrodAll enc Trym.prog W 0 (fun _ => true) true Trym.f9.params.toList args.toList ds p := hA0
  rw [Trym.params9] at hA hval
  obtain ⟨v0, v1, d0, d1, p0, p1, rfl, rfl, rfl, h0, h1⟩ := trodAll_two hA
  obtain ⟨rfl, rfl⟩ := trodVars_none hV
  obtain ⟨s, rfl, rfl, rfl, ws⟩ := open_int Trym.underlying3 (hval 1 3 v1 rfl rfl) h1
  obtain ⟨cs, rfl, hsz, _⟩ : ∃ cs, v0 = .agg cs ∧ cs.size = Trym.prog.cellsOf 30 ∧ Row.okWide Trym.prog W .any base 30 cs := by
    have := hval 0 30 v0 rfl rfl
    simpa [Value.okWide, Trym.underlying30] using this
  rw [cells30] at hsz
  obtain ⟨l⟩ := cs
  obtain ⟨c0, c1, c2, c3, rfl⟩ := list4 l hsz
  obtain ⟨fuel, hf⟩ := h0
  obtain ⟨y0, y1, y2, y3, m, hx, hy0, hy1, hy2, hy3⟩ := trod_array4 Trym.underlying30 cells29 hf
  obtain ⟨x0, e0, rfl, w0⟩ := DataW.trod_int Trym.underlying29 hy0
  obtain ⟨x1, e1, rfl, w1⟩ := DataW.trod_int Trym.underlying29 hy1
  obtain ⟨x2, e2, rfl, w2⟩ := DataW.trod_int Trym.underlying29 hy2
  obtain ⟨x3, e3, rfl, w3⟩ := DataW.trod_int Trym.underlying29 hy3
  simp at e0 e1 e2 e3
  subst e0 e1 e2 e3
  simp only [Prod.mk.injEq] at hx
  obtain ⟨rfl, rfl⟩ := hx
  clear hA0 hval0
  simp only [List.append_nil] at hW'
  refine (f9_any x0 x1 x2 x3 s (bounds_u32 w0) (bounds_u32 w1) (bounds_u32 w2) (bounds_u32 w3) W).mono fun e W' ⟨he, hg⟩ => ?_
  subst he
  exact ⟨_, rfl, post_of_same (pa := []) (pv := []) hW' (fun _ _ _ => (trodAll_cons_mk (shut_bool Trym.underlying4 _) trodAll_mk0)) (fun sp _ => (trodAll_cons_mk (again _ sp x0 x1 x2 x3 w0 w1 w2 w3) (trodAll_cons_mk (shut_int Trym.underlying3 ws) trodAll_mk0))) (fun _ _ => rfl) rfl
    (hg.frame _) hg.2.1 (ok_one (by kernel_rfl) rfl (okWide_bool_mk Trym.underlying4 _))⟩

theorem over : Rows.fnSettleAgreesWithAscendingRow.holds Trym.pinned (OpenSpec.ofChange Rows.fnSettleAgreesWithAscendingSpec) :=
  OpenClaim.holds_of_wide 9 Trym.f9 rfl rfl rfl rfl rfl rfl rfl ⟨rfl, rfl, rfl, rfl, rfl⟩ rfl rfl rfl rfl rfl (by kernel_rfl) Trym.func9 (by kernel_rfl)
    (of_decide_eq_true (by kernel_rfl)) (by unfold Func.isWrapper; first | (rw [if_pos (by decide +kernel)]; kernel_rfl) | (rw [if_neg (by decide +kernel)]; exact ⟨rfl, rfl⟩))
    (fun os started H enc _ => lifted os started H enc)
end Go.Proofs.Qxb6600190aMods.fnSettleAgreesWithAscending
namespace Go.Proofs.Qxb6600190aMods
theorem fnSettleAgreesWithAscending_proved : Rows.FnSettleAgreesWithAscendingSaid := fnSettleAgreesWithAscending.over
end Go.Proofs.Qxb6600190aMods
