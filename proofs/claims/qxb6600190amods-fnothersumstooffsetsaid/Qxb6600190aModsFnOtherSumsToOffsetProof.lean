/- FnOtherSumsToOffset: the frame is the guide's own shell; the walk is ours. -/
import Derived.Test.Qxb6600190aModsRows
import Derived.WalkKit
import Derived.ProofKit
import Derived.OpenShut
import Derived.ShutString
import Derived.Test.Qxb6600190aModsWalksA
namespace Go.Proofs.Qxb6600190aMods.fnOtherSumsToOffset
open Go.ChangeShapes Go.WideShapes Go.ChangeAt Go.RowKit
open Go.ChangeMaps (open_string shut_string)
set_option linter.unusedVariables false      -- a walk need not use every 'w<i>' (that an integer argument fits its kind)

theorem own : ownKnob Trym.prog.godebug = none := by kernel_rfl

/-! ### THE WALK -/
set_option maxHeartbeats 1600000 in
theorem walk (a0 : Int) (a1 : Int) (a2 : Int) (a3 : Int) (w0 : (Lit.int .u64 a0).wf = true) (w1 : (Lit.int .u64 a1).wf = true) (w2 : (Lit.int .u64 a2).wf = true) (w3 : (Lit.int .u64 a3).wf = true) (w : World) :
    Calls Trym.prog 3 #[.int .u64 a0, .int .u64 a1, .int .u64 a2, .int .u64 a3] w fun e w' => e = .returned (.bool true) ∧ Grown w w' := by
  obtain ⟨n0, n1⟩ := bounds_u64 w0
  obtain ⟨o0, o1⟩ := bounds_u64 w1
  obtain ⟨m0, m1⟩ := bounds_u64 w2
  obtain ⟨i0, i1⟩ := bounds_u64 w3
  clear w0 w1 w2 w3
  by_cases g1 : a0 = 0
  · subst g1
    go_enter Trym.func3, Trym.ntmps3
    go_wp2
    go_ret
    exact ⟨rfl, Grown.refl _⟩
  have g1' : 0 < a0 := by omega
  clear g1
  by_cases g2 : 9223372036854775808 < a0
  · go_enter Trym.func3, Trym.ntmps3
    go_wp2
    go_ret
    exact ⟨rfl, Grown.refl _⟩
  by_cases g3 : a0 ≤ a1
  · go_enter Trym.func3, Trym.ntmps3
    go_wp2
    go_ret
    exact ⟨rfl, Grown.refl _⟩
  by_cases g4 : a0 ≤ a3
  · go_enter Trym.func3, Trym.ntmps3
    go_wp2
    go_ret
    exact ⟨rfl, Grown.refl _⟩
  have hn : a0 ≤ 9223372036854775808 := by omega
  have ho' : a1 < a0 := by omega
  have hi' : a3 < a0 := by omega
  have m1' : a2 < 18446744073709551616 := by omega
  obtain ⟨b1, b2⟩ := oth_bd a0 a1 a2 a3 hn o0 ho' m0 m1' i0 hi'
  obtain ⟨c1, c2⟩ := msk_bd a0 a2 a3 hn m0 m1' i0 hi'
  obtain ⟨d1, d2⟩ := msk_bd a0 a2 (oth a0 a1 a2 a3) hn m0 m1' b1 b2
  have E1 : Hid (msk a0 a2 (msk a0 a2 a3) = a3) := msk_msk a0 a2 a3 hn m0 m1' i0 hi'
  have E2 : Hid (msk a0 a2 (msk a0 a2 (oth a0 a1 a2 a3)) = oth a0 a1 a2 a3) := msk_msk a0 a2 _ hn m0 m1' b1 b2
  have E3 : Hid ((msk a0 a2 a3 + msk a0 a2 (oth a0 a1 a2 a3)) % a0 = a1) := sum_oth a0 a1 a2 a3 hn o0 ho' m0 m1' i0 hi'
  have F1 : (msk a0 a2 (msk a0 a2 a3) != a3) = false := by rw [E1.out]; simp
  have F2 : (msk a0 a2 (msk a0 a2 (oth a0 a1 a2 a3)) != oth a0 a1 a2 a3) = false := by rw [E2.out]; simp
  have F3 : ((msk a0 a2 a3 + msk a0 a2 (oth a0 a1 a2 a3)) % a0 != a1) = false := by rw [E3.out]; simp
  by_cases z : a2 = 0
  · subst z
    have E4 : Hid (oth a0 a1 0 a3 = (a1 + a0 - a3) % a0) := oth_zero a0 a1 a3 hn o0 ho' i0 hi'
    have F4 : (oth a0 a1 0 a3 != (a1 + a0 - a3) % a0) = false := by rw [E4.out]; simp
    go_enter Trym.func3, Trym.ntmps3
    go_wp2_with fail
    refine (zzother_any a0 a1 0 a3 hn o0 ho' m0 m1' i0 hi' _).mono ?_
    rintro e w' ⟨rfl, k1, k2, k3, rfl⟩
    go_wp2_with fail
    refine (zzmasked_any a0 a1 0 a3 _).mono ?_
    rintro e w' ⟨rfl, k4, rfl⟩
    go_wp2_with fail
    refine (zzmasked_any a0 a1 0 _ _).mono ?_
    rintro e w' ⟨rfl, k5, rfl⟩
    go_wp2_with fail
    refine (zzmasked_any a0 a1 0 _ _).mono ?_
    rintro e w' ⟨rfl, k6, rfl⟩
    go_wp2_with fail
    refine (zzmasked_any a0 a1 0 _ _).mono ?_
    rintro e w' ⟨rfl, k7, rfl⟩
    go_wp2_with fail
    go_ret
    exact ⟨rfl, by repeat (first | exact Grown.refl _ | apply Grown.drew | apply Grown.alloc)⟩
  · have z' : 0 < a2 := by omega
    clear z
    go_enter Trym.func3, Trym.ntmps3
    go_wp2_with fail
    refine (zzother_any a0 a1 a2 a3 hn o0 ho' m0 m1' i0 hi' _).mono ?_
    rintro e w' ⟨rfl, k1, k2, k3, rfl⟩
    go_wp2_with fail
    refine (zzmasked_any a0 a1 a2 a3 _).mono ?_
    rintro e w' ⟨rfl, k4, rfl⟩
    go_wp2_with fail
    refine (zzmasked_any a0 a1 a2 _ _).mono ?_
    rintro e w' ⟨rfl, k5, rfl⟩
    go_wp2_with fail
    refine (zzmasked_any a0 a1 a2 _ _).mono ?_
    rintro e w' ⟨rfl, k6, rfl⟩
    go_wp2_with fail
    refine (zzmasked_any a0 a1 a2 _ _).mono ?_
    rintro e w' ⟨rfl, k7, rfl⟩
    go_wp2_with fail
    go_ret
    exact ⟨rfl, by repeat (first | exact Grown.refl _ | apply Grown.drew | apply Grown.alloc)⟩

/-! ### THE ROW's STEP: WRITTEN OUT: LEAVE IT -/
set_option maxRecDepth 100000 in
theorem lifted (os : Os) (started : os.Started) (H : Type) (enc : TypeId × Value → H) :
    ReturnsInHanded {} Trym.checked os 3 .any (Rows.fnOtherSumsToOffsetSpec.pre6 enc Trym.prog Trym.f3 Rows.fnOtherSumsToOffsetRow.domain false) (Rows.fnOtherSumsToOffsetSpec.post enc Trym.prog Trym.f3 false true false false) := by
  refine returnsInHanded_of_change (C := Trym.checked) own started (by kernel_rfl) Trym.func3
    (ChangeSpec.witness6 (enc := enc) (C := Trym.checked) false ⟨#[], #[.int .u64 0, .int .u64 0, .int .u64 0, .int .u64 0], []⟩ 8 (by kernel_rfl) (by kernel_rfl) (by kernel_rfl) (by kernel_rfl)) ?_
  intro W base args ds gs before hval0 hW hcnd _
  have hval : ∀ (j : Nat) t v, Trym.f3.params[j]? = some t → args[j]? = some v → Value.okWide Trym.prog W .any base t v := hval0
  have hW' := hW
  obtain ⟨p, q, hA0, hV, rfl, hfz, hnd⟩ := hW
  have hA : DataW.TrodAll enc Trym.prog W 0 (fun _ => true) true Trym.f3.params.toList args.toList ds p := hA0
  rw [Trym.params3] at hA hval
  obtain ⟨v0, vs0, d0, ds0, p0, q0, hargs, rfl, rfl, h0, r0⟩ := trodAll_cons hA
  obtain ⟨v1, vs1, d1, ds1, p1, q1, rfl, rfl, rfl, h1, r1⟩ := trodAll_cons r0
  obtain ⟨v2, vs2, d2, ds2, p2, q2, rfl, rfl, rfl, h2, r2⟩ := trodAll_cons r1
  obtain ⟨v3, vs3, d3, ds3, p3, q3, rfl, rfl, rfl, h3, r3⟩ := trodAll_cons r2
  obtain ⟨rfl, rfl, rfl⟩ := trodAll_nil r3
  obtain rfl : args = #[v0, v1, v2, v3] := by cases args; simp_all
  obtain ⟨rfl, rfl⟩ := trodVars_none hV
  obtain ⟨a0, rfl, rfl, rfl, w0⟩ := open_int Trym.underlying22 (hval 0 22 v0 rfl rfl) h0
  obtain ⟨a1, rfl, rfl, rfl, w1⟩ := open_int Trym.underlying22 (hval 1 22 v1 rfl rfl) h1
  obtain ⟨a2, rfl, rfl, rfl, w2⟩ := open_int Trym.underlying22 (hval 2 22 v2 rfl rfl) h2
  obtain ⟨a3, rfl, rfl, rfl, w3⟩ := open_int Trym.underlying22 (hval 3 22 v3 rfl rfl) h3
  clear hA0 hval0
  simp only [List.append_nil] at hW'
  refine (walk a0 a1 a2 a3 w0 w1 w2 w3 W).mono fun e W' ⟨he, hg⟩ => ?_
  subst he
  exact ⟨_, rfl, post_of_same (pa := []) (pv := []) hW' (fun _ _ _ => (trodAll_cons_mk (shut_bool Trym.underlying4 _) trodAll_mk0)) (fun sp _ => (trodAll_cons_mk (shut_int Trym.underlying22 w0) (trodAll_cons_mk (shut_int Trym.underlying22 w1) (trodAll_cons_mk (shut_int Trym.underlying22 w2) (trodAll_cons_mk (shut_int Trym.underlying22 w3) trodAll_mk0))))) (fun _ _ => rfl) rfl
    (hg.frame _) hg.2.1 (ok_one (by kernel_rfl) rfl (okWide_bool_mk Trym.underlying4 _))⟩

theorem over : Rows.fnOtherSumsToOffsetRow.holds Trym.pinned (OpenSpec.ofChange Rows.fnOtherSumsToOffsetSpec) :=
  OpenClaim.holds_of_wide 3 Trym.f3 rfl rfl rfl rfl rfl rfl rfl ⟨rfl, rfl, rfl, rfl, rfl⟩ rfl rfl rfl rfl rfl (by kernel_rfl) Trym.func3 (by kernel_rfl)
    (of_decide_eq_true (by kernel_rfl)) (by unfold Func.isWrapper; first | (rw [if_pos (by decide +kernel)]; kernel_rfl) | (rw [if_neg (by decide +kernel)]; exact ⟨rfl, rfl⟩))
    (fun os started H enc _ => lifted os started H enc)

/-- ████ THE STATEMENT ████ -/
theorem proved : Rows.FnOtherSumsToOffsetSaid :=
  over
end Go.Proofs.Qxb6600190aMods.fnOtherSumsToOffset
namespace Go.Proofs.Qxb6600190aMods
theorem fnOtherSumsToOffset_proved : Rows.FnOtherSumsToOffsetSaid := fnOtherSumsToOffset.proved
end Go.Proofs.Qxb6600190aMods
