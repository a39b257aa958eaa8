/- FnSettleKeepsBucketOverScript: an array of four by value, and a slice of uint64. The frame is turned from the guide's own shells (a slice; an array by value). -/
import Derived.Test.Qxb6600190aModsRows
import Derived.WalkKit
import Derived.ProofKit
import Derived.OpenShut
import Derived.ShutString
import Derived.ChangeOld
import Derived.Below
import Derived.Laws.IdiomArrays
import Derived.Test.Qxb6600190aModsWalksK
namespace Go.Proofs.Qxb6600190aMods.fnSettleKeepsBucketOverScript
open Go.ChangeShapes Go.WideShapes Go.ChangeAt Go.RowKit
set_option linter.unusedVariables false

theorem own : ownKnob Trym.prog.godebug = none := by kernel_rfl
theorem laidOut : laidOutB Trym.prog = true := by kernel_rfl
theorem cells29 : Trym.prog.cellsOf 29 = 1 := by kernel_rfl
theorem cells30 : Trym.prog.cellsOf 30 = 4 := by kernel_rfl
theorem list4 {α : Type} (l : List α) (h : (⟨l⟩ : Array α).size = 4) : ∃ a b c d, l = [a, b, c, d] := by
  match l, h with
  | [a, b, c, d], _ => exact ⟨a, b, c, d, rfl⟩
/-- The array reads again as it read. -/
theorem again {H : Type} {enc : TypeId × Value → H} (W : World) (sp : Nat → Bool) (x0 x1 x2 x3 : Int) (w0 : (Lit.int .u32 x0).wf = true) (w1 : (Lit.int .u32 x1).wf = true) (w2 : (Lit.int .u32 x2).wf = true) (w3 : (Lit.int .u32 x3).wf = true) :
    DataW.Trod enc Trym.prog W 0 sp true 30 (.agg #[.int .u32 x0, .int .u32 x1, .int .u32 x2, .int .u32 x3]) (DataW.agg [.lit (.int .u32 x0), .lit (.int .u32 x1), .lit (.int .u32 x2), .lit (.int .u32 x3)] : DataW H) [] :=
  ⟨2, by simp [DataW.trod, Value.cells, Trym.underlying30, Trym.underlying29, cells30, cells29, w0, w1, w2, w3, show List.range 4 = [0, 1, 2, 3] from rfl]⟩

set_option maxHeartbeats 800000 in
set_option maxRecDepth 100000 in
theorem lifted (os : Os) (started : os.Started) (H : Type) (enc : TypeId × Value → H) :
    ReturnsInHanded {} Trym.checked os 10 .any (Rows.fnSettleKeepsBucketOverScriptSpec.pre6 enc Trym.prog Trym.f10 Rows.fnSettleKeepsBucketOverScriptRow.domain false) (Rows.fnSettleKeepsBucketOverScriptSpec.post enc Trym.prog Trym.f10 false true false false) := by
  refine returnsInHanded_of_change (C := Trym.checked) own started (by kernel_rfl) Trym.func10
    (ChangeSpec.witness6 (enc := enc) (C := Trym.checked) false ⟨#[], #[.agg #[.int .u32 0, .int .u32 0, .int .u32 0, .int .u32 0], .slice none 0 0], []⟩ 8 (by kernel_rfl) (by kernel_rfl) (by kernel_rfl) (by kernel_rfl)) ?_
  intro W base args ds gs before hval0 hW hcnd _
  have hval : ∀ (j : Nat) t v, Trym.f10.params[j]? = some t → args[j]? = some v → Value.okWide Trym.prog W .any base t v := hval0
  have hW' := hW
  obtain ⟨p, q, hA0, hV, rfl, hfz, hnd⟩ := hW
  have hA : DataW.TrodAll enc Trym.prog W 0 (fun _ => true) true Trym.f10.params.toList args.toList ds p := hA0
  rw [Trym.params10] at hA hval
  obtain ⟨v0, vs0, d0, ds0, p0, q0, hargs, rfl, rfl, h0, r0⟩ := trodAll_cons hA
  obtain ⟨v1, vs1, d1, ds1, p1, q1, rfl, rfl, rfl, h1, r1⟩ := trodAll_cons r0
  obtain ⟨rfl, rfl, rfl⟩ := trodAll_nil r1
  obtain rfl : args = #[v0, v1] := by cases args; simp_all
  obtain ⟨rfl, rfl⟩ := trodVars_none hV
  obtain ⟨a1, len1, cap1, rfl⟩ := okWide_slice Trym.underlying36 (hval 1 36 v1 rfl rfl)
  have k1 := h1
  have lt1 : ∀ x ∈ p1, x.block < W.heap.size := by obtain ⟨m, hm⟩ := k1; exact DataW.trod_lt m _ _ _ hm
  obtain ⟨z1, wz1⟩ : ∃ zs, IsRow .u64 W a1 len1 cap1 zs := by
    obtain ⟨fuel, hf⟩ := h1
    rcases open_ints Trym.underlying36 Trym.underlying22 (by kernel_rfl) hf with ⟨hcs, _⟩ | ⟨x, l, c, zs, hcs, _, hl, hm, hz, _, hcell, hwz⟩
    · simp [Value.cells] at hcs
      obtain ⟨rfl, rfl, rfl⟩ := hcs
      exact ⟨[], .inl ⟨rfl, rfl, rfl, rfl⟩⟩
    · simp [Value.cells] at hcs
      obtain ⟨rfl, rfl, rfl⟩ := hcs
      exact ⟨zs, .inr ⟨_, rfl, hl, hm, by simpa using hz, hcell, hwz⟩⟩
  obtain ⟨cs, rfl, hsz, _⟩ : ∃ cs, v0 = .agg cs ∧ cs.size = Trym.prog.cellsOf 30 ∧ Row.okWide Trym.prog W .any base 30 cs := by
    have := hval 0 30 v0 rfl rfl
    simpa [Value.okWide, Trym.underlying30] using this
  rw [cells30] at hsz
  obtain ⟨l⟩ := cs
  obtain ⟨c0, c1, c2, c3, rfl⟩ := list4 l hsz
  obtain ⟨fuel, hf⟩ := h0
  obtain ⟨y0, y1, y2, y3, m, hx, hy0, hy1, hy2, hy3⟩ := trod_array4 Trym.underlying30 cells29 hf
  obtain ⟨x0, e0, rfl, w0⟩ := DataW.trod_int Trym.underlying29 hy0
  obtain ⟨x1, e1, rfl, w1⟩ := DataW.trod_int Trym.underlying29 hy1
  obtain ⟨x2, e2, rfl, w2⟩ := DataW.trod_int Trym.underlying29 hy2
  obtain ⟨x3, e3, rfl, w3⟩ := DataW.trod_int Trym.underlying29 hy3
  simp at e0 e1 e2 e3
  subst e0 e1 e2 e3
  simp only [Prod.mk.injEq] at hx
  obtain ⟨rfl, rfl⟩ := hx
  clear hA0 hval0
  refine (f10_any x0 x1 x2 x3 a1 len1 cap1 z1 W wz1).mono fun e W' ⟨he, bel⟩ => ?_
  subst he
  exact ⟨_, rfl, _, _, _, [], _, [], hW', trodAll_mk1 (shut_bool Trym.underlying4 _), (trodAll_cons_mk (again _ _ x0 x1 x2 x3 w0 w1 w2 w3) (trodAll_cons_mk (Below.trod laidOut (by kernel_rfl) (of_decide_eq_true (by kernel_rfl)) k1 bel lt1) trodAll_mk0)), rfl, bel.frame _, fun h => by cases h⟩

theorem over : Rows.fnSettleKeepsBucketOverScriptRow.holds Trym.pinned (OpenSpec.ofChange Rows.fnSettleKeepsBucketOverScriptSpec) :=
  OpenClaim.holds_of_wide 10 Trym.f10 rfl rfl rfl rfl rfl rfl rfl ⟨rfl, rfl, rfl, rfl, rfl⟩ rfl rfl rfl rfl rfl (by kernel_rfl) Trym.func10 (by kernel_rfl)
    (of_decide_eq_true (by kernel_rfl)) (by unfold Func.isWrapper; first | (rw [if_pos (by decide +kernel)]; kernel_rfl) | (rw [if_neg (by decide +kernel)]; exact ⟨rfl, rfl⟩))
    (fun os started H enc _ => lifted os started H enc)
end Go.Proofs.Qxb6600190aMods.fnSettleKeepsBucketOverScript
namespace Go.Proofs.Qxb6600190aMods
theorem fnSettleKeepsBucketOverScript_proved : Rows.FnSettleKeepsBucketOverScriptSaid := fnSettleKeepsBucketOverScript.over
end Go.Proofs.Qxb6600190aMods
