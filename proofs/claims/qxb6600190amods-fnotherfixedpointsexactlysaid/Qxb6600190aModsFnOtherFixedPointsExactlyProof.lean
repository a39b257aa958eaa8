/- FnOtherFixedPointsExactly: the frame is the guide's own shell; the walk is ours. -/
import Derived.Test.Qxb6600190aModsRows
import Derived.WalkKit
import Derived.ProofKit
import Derived.OpenShut
import Derived.ShutString
import Derived.Test.Qxb6600190aModsWalksA
namespace Go.Proofs.Qxb6600190aMods.fnOtherFixedPointsExactly
open Go.ChangeShapes Go.WideShapes Go.ChangeAt Go.RowKit
open Go.ChangeMaps (open_string shut_string)
set_option linter.unusedVariables false      -- a walk need not use every 'w<i>' (that an integer argument fits its kind)

theorem own : ownKnob Trym.prog.godebug = none := by kernel_rfl

/-! ### THE WALK -/
theorem beq_of_iff {a b c d : Int} (h : a = b ↔ c = d) : (a == b) = (c == d) := by
  rw [Bool.eq_iff_iff]; simpa using h
theorem rfx_odd (n o j : Int) (h : n % 2 = 1) (p : o % 2 = 1) (ho : 0 ≤ o) (ho' : o < n) (hj : 0 ≤ j) (hj' : j < n) : rfx n o j = j ↔ j = (o + n) / 2 := by
  unfold rfx; split <;> omega
theorem rfx_even (n o j : Int) (h : n % 2 = 1) (p : o % 2 = 0) (ho : 0 ≤ o) (ho' : o < n) (hj : 0 ≤ j) (hj' : j < n) : rfx n o j = j ↔ j = o / 2 := by
  unfold rfx; split <;> omega
theorem rfx_none (n o j : Int) (h : n % 2 = 0) (p : o % 2 = 1) : ¬ rfx n o j = j := by
  unfold rfx; split <;> omega

set_option maxHeartbeats 3200000 in
/-- The walk, every test decided: 'fx': i is its own pair; 'b': buckets is even; 'c': offset is odd. -/
theorem core (fx b c : Bool) (a0 a1 a2 a3 : Int) (g1' : 0 < a0) (hn : a0 ≤ 9223372036854775808) (o0 : 0 ≤ a1) (ho' : a1 < a0) (m0 : 0 ≤ a2) (m1' : a2 < 18446744073709551616) (i0 : 0 ≤ a3) (hi' : a3 < a0)
    (f1 : (oth a0 a1 a2 a3 == a3) = fx) (f2 : ((2 * msk a0 a2 a3) % a0 == a1) = fx) (p1 : (a0 % 2 == 0) = b) (p2 : (a0 % 2 == 1) = !b) (p3 : (a1 % 2 == 1) = c)
    (bad : (b && c && fx) = false) (q1 : b = false → c = true → (msk a0 a2 a3 == (a1 + a0) / 2) = fx) (q2 : b = false → c = false → (msk a0 a2 a3 == a1 / 2) = fx) (w : World) :
    Calls Trym.prog 5 #[.int .u64 a0, .int .u64 a1, .int .u64 a2, .int .u64 a3] w fun e w' => e = .returned (.bool true) ∧ Grown w w' := by
  obtain ⟨c1, c2⟩ := msk_bd a0 a2 a3 hn m0 m1' i0 hi'
  have g2 : ¬ 9223372036854775808 < a0 := by omega
  have g3 : ¬ a0 ≤ a1 := by omega
  have g4 : ¬ a0 ≤ a3 := by omega
  cases b
  · cases c
    · have q := q2 rfl rfl
      clear q1 q2 bad
      simp only [Bool.not_false] at p2
      cases fx
      all_goals
        go_enter Trym.func5, Trym.ntmps5
        go_wp2_with fail
        refine (zzother_any a0 a1 a2 a3 hn o0 ho' m0 m1' i0 hi' _).mono ?_
        rintro e w' ⟨rfl, k1, k2, k3, rfl⟩
        go_wp2_with fail
        refine (zzmasked_any a0 a1 a2 a3 _).mono ?_
        rintro e w' ⟨rfl, k4, rfl⟩
        go_wp2_with fail
        go_ret
        exact ⟨rfl, by repeat (first | exact Grown.refl _ | apply Grown.drew | apply Grown.alloc)⟩
    · have q := q1 rfl rfl
      clear q1 q2 bad
      simp only [Bool.not_false] at p2
      cases fx
      all_goals
        go_enter Trym.func5, Trym.ntmps5
        go_wp2_with fail
        refine (zzother_any a0 a1 a2 a3 hn o0 ho' m0 m1' i0 hi' _).mono ?_
        rintro e w' ⟨rfl, k1, k2, k3, rfl⟩
        go_wp2_with fail
        refine (zzmasked_any a0 a1 a2 a3 _).mono ?_
        rintro e w' ⟨rfl, k4, rfl⟩
        go_wp2_with fail
        go_ret
        exact ⟨rfl, by repeat (first | exact Grown.refl _ | apply Grown.drew | apply Grown.alloc)⟩
  · clear q1 q2
    simp only [Bool.not_true] at p2
    cases c
    · clear bad
      cases fx
      all_goals
        go_enter Trym.func5, Trym.ntmps5
        go_wp2_with fail
        refine (zzother_any a0 a1 a2 a3 hn o0 ho' m0 m1' i0 hi' _).mono ?_
        rintro e w' ⟨rfl, k1, k2, k3, rfl⟩
        go_wp2_with fail
        refine (zzmasked_any a0 a1 a2 a3 _).mono ?_
        rintro e w' ⟨rfl, k4, rfl⟩
        go_wp2_with fail
        go_ret
        exact ⟨rfl, by repeat (first | exact Grown.refl _ | apply Grown.drew | apply Grown.alloc)⟩
    · cases fx
      · clear bad
        go_enter Trym.func5, Trym.ntmps5
        go_wp2_with fail
        refine (zzother_any a0 a1 a2 a3 hn o0 ho' m0 m1' i0 hi' _).mono ?_
        rintro e w' ⟨rfl, k1, k2, k3, rfl⟩
        go_wp2_with fail
        refine (zzmasked_any a0 a1 a2 a3 _).mono ?_
        rintro e w' ⟨rfl, k4, rfl⟩
        go_wp2_with fail
        go_ret
        exact ⟨rfl, by repeat (first | exact Grown.refl _ | apply Grown.drew | apply Grown.alloc)⟩
      · exact absurd bad (by decide)

theorem walk (a0 : Int) (a1 : Int) (a2 : Int) (a3 : Int) (w0 : (Lit.int .u64 a0).wf = true) (w1 : (Lit.int .u64 a1).wf = true) (w2 : (Lit.int .u64 a2).wf = true) (w3 : (Lit.int .u64 a3).wf = true) (w : World) :
    Calls Trym.prog 5 #[.int .u64 a0, .int .u64 a1, .int .u64 a2, .int .u64 a3] w fun e w' => e = .returned (.bool true) ∧ Grown w w' := by
  obtain ⟨n0, n1⟩ := bounds_u64 w0
  obtain ⟨o0, o1⟩ := bounds_u64 w1
  obtain ⟨m0, m1⟩ := bounds_u64 w2
  obtain ⟨i0, i1⟩ := bounds_u64 w3
  clear w0 w1 w2 w3
  by_cases g1 : a0 = 0
  · subst g1
    go_enter Trym.func5, Trym.ntmps5
    go_wp2
    go_ret
    exact ⟨rfl, Grown.refl _⟩
  have g1' : 0 < a0 := by omega
  clear g1
  by_cases g2 : 9223372036854775808 < a0
  · go_enter Trym.func5, Trym.ntmps5
    go_wp2
    go_ret
    exact ⟨rfl, Grown.refl _⟩
  by_cases g3 : a0 ≤ a1
  · go_enter Trym.func5, Trym.ntmps5
    go_wp2
    go_ret
    exact ⟨rfl, Grown.refl _⟩
  by_cases g4 : a0 ≤ a3
  · go_enter Trym.func5, Trym.ntmps5
    go_wp2
    go_ret
    exact ⟨rfl, Grown.refl _⟩
  have hn : a0 ≤ 9223372036854775808 := by omega
  have ho' : a1 < a0 := by omega
  have hi' : a3 < a0 := by omega
  have m1' : a2 < 18446744073709551616 := by omega
  obtain ⟨c1, c2⟩ := msk_bd a0 a2 a3 hn m0 m1' i0 hi'
  have F := oth_fixed a0 a1 a2 a3 hn o0 ho' m0 m1' i0 hi'
  have R := rfx_fixed a0 a1 (msk a0 a2 a3) o0 ho' c1 c2
  refine core (oth a0 a1 a2 a3 == a3) (a0 % 2 == 0) (a1 % 2 == 1) a0 a1 a2 a3 g1' hn o0 ho' m0 m1' i0 hi' rfl (beq_of_iff (F.trans R)).symm rfl ?_ rfl ?_ ?_ ?_ w
  · rw [Bool.eq_iff_iff]; simp; omega
  · have h := rfx_none a0 a1 (msk a0 a2 a3)
    by_cases x : a0 % 2 = 0
    · by_cases y : a1 % 2 = 1
      · have : ¬ oth a0 a1 a2 a3 = a3 := fun e => h x y (F.1 e)
        simp [this]
      · simp [y]
    · simp [x]
  · intro x y
    have x' : a0 % 2 = 1 := by have : ¬ a0 % 2 = 0 := by simpa using x
                               omega
    exact (beq_of_iff (F.trans (rfx_odd a0 a1 _ x' (by simpa using y) o0 ho' c1 c2))).symm
  · intro x y
    have x' : a0 % 2 = 1 := by have : ¬ a0 % 2 = 0 := by simpa using x
                               omega
    have y' : a1 % 2 = 0 := by have : ¬ a1 % 2 = 1 := by simpa using y
                               omega
    exact (beq_of_iff (F.trans (rfx_even a0 a1 _ x' y' o0 ho' c1 c2))).symm

/-! ### THE ROW's STEP: WRITTEN OUT: LEAVE IT -/
set_option maxRecDepth 100000 in
theorem lifted (os : Os) (started : os.Started) (H : Type) (enc : TypeId × Value → H) :
    ReturnsInHanded {} Trym.checked os 5 .any (Rows.fnOtherFixedPointsExactlySpec.pre6 enc Trym.prog Trym.f5 Rows.fnOtherFixedPointsExactlyRow.domain false) (Rows.fnOtherFixedPointsExactlySpec.post enc Trym.prog Trym.f5 false true false false) := by
  refine returnsInHanded_of_change (C := Trym.checked) own started (by kernel_rfl) Trym.func5
    (ChangeSpec.witness6 (enc := enc) (C := Trym.checked) false ⟨#[], #[.int .u64 0, .int .u64 0, .int .u64 0, .int .u64 0], []⟩ 8 (by kernel_rfl) (by kernel_rfl) (by kernel_rfl) (by kernel_rfl)) ?_
  intro W base args ds gs before hval0 hW hcnd _
  have hval : ∀ (j : Nat) t v, Trym.f5.params[j]? = some t → args[j]? = some v → Value.okWide Trym.prog W .any base t v := hval0
  have hW' := hW
  obtain ⟨p, q, hA0, hV, rfl, hfz, hnd⟩ := hW
  have hA : DataW.TrodAll enc Trym.prog W 0 (fun _ => true) true Trym.f5.params.toList args.toList ds p := hA0
  rw [Trym.params5] at hA hval
  obtain ⟨v0, vs0, d0, ds0, p0, q0, hargs, rfl, rfl, h0, r0⟩ := trodAll_cons hA
  obtain ⟨v1, vs1, d1, ds1, p1, q1, rfl, rfl, rfl, h1, r1⟩ := trodAll_cons r0
  obtain ⟨v2, vs2, d2, ds2, p2, q2, rfl, rfl, rfl, h2, r2⟩ := trodAll_cons r1
  obtain ⟨v3, vs3, d3, ds3, p3, q3, rfl, rfl, rfl, h3, r3⟩ := trodAll_cons r2
  obtain ⟨rfl, rfl, rfl⟩ := trodAll_nil r3
  obtain rfl : args = #[v0, v1, v2, v3] := by cases args; simp_all
  obtain ⟨rfl, rfl⟩ := trodVars_none hV
  obtain ⟨a0, rfl, rfl, rfl, w0⟩ := open_int Trym.underlying22 (hval 0 22 v0 rfl rfl) h0
  obtain ⟨a1, rfl, rfl, rfl, w1⟩ := open_int Trym.underlying22 (hval 1 22 v1 rfl rfl) h1
  obtain ⟨a2, rfl, rfl, rfl, w2⟩ := open_int Trym.underlying22 (hval 2 22 v2 rfl rfl) h2
  obtain ⟨a3, rfl, rfl, rfl, w3⟩ := open_int Trym.underlying22 (hval 3 22 v3 rfl rfl) h3
  clear hA0 hval0
  simp only [List.append_nil] at hW'
  refine (walk a0 a1 a2 a3 w0 w1 w2 w3 W).mono fun e W' ⟨he, hg⟩ => ?_
  subst he
  exact ⟨_, rfl, post_of_same (pa := []) (pv := []) hW' (fun _ _ _ => (trodAll_cons_mk (shut_bool Trym.underlying4 _) trodAll_mk0)) (fun sp _ => (trodAll_cons_mk (shut_int Trym.underlying22 w0) (trodAll_cons_mk (shut_int Trym.underlying22 w1) (trodAll_cons_mk (shut_int Trym.underlying22 w2) (trodAll_cons_mk (shut_int Trym.underlying22 w3) trodAll_mk0))))) (fun _ _ => rfl) rfl
    (hg.frame _) hg.2.1 (ok_one (by kernel_rfl) rfl (okWide_bool_mk Trym.underlying4 _))⟩

theorem over : Rows.fnOtherFixedPointsExactlyRow.holds Trym.pinned (OpenSpec.ofChange Rows.fnOtherFixedPointsExactlySpec) :=
  OpenClaim.holds_of_wide 5 Trym.f5 rfl rfl rfl rfl rfl rfl rfl ⟨rfl, rfl, rfl, rfl, rfl⟩ rfl rfl rfl rfl rfl (by kernel_rfl) Trym.func5 (by kernel_rfl)
    (of_decide_eq_true (by kernel_rfl)) (by unfold Func.isWrapper; first | (rw [if_pos (by decide +kernel)]; kernel_rfl) | (rw [if_neg (by decide +kernel)]; exact ⟨rfl, rfl⟩))
    (fun os started H enc _ => lifted os started H enc)

/-- ████ THE STATEMENT ████ -/
theorem proved : Rows.FnOtherFixedPointsExactlySaid :=
  over
end Go.Proofs.Qxb6600190aMods.fnOtherFixedPointsExactly
namespace Go.Proofs.Qxb6600190aMods
theorem fnOtherFixedPointsExactly_proved : Rows.FnOtherFixedPointsExactlySaid := fnOtherFixedPointsExactly.proved
end Go.Proofs.Qxb6600190aMods
