/- The walk of FnAscendingIsSortedRepack: a table of sixteen counts, then two loops, one inside the other. -/
import Derived.Test.Qxb6600190aModsWalksB
import Derived.Test.Qxb6600190aModsPlainC
import Derived.LoopTactic
namespace Go.Proofs.Qxb6600190aMods
open Go.RowKit
set_option linter.unusedVariables false
/-- The table of counts in block B reads f; the rest is as in w. -/
structure Tab (B : Nat) (w wr : World) (f : Nat → Nat) : Prop where
  cell : ∀ v, v < 16 → wr.cell? ⟨B, v, none⟩ = some (.int .i64 (f v))
  fz : ∀ v, v < 16 → wr.frozen? ⟨B, v, none⟩ = false
  grown : Grown w wr
theorem Tab.step {B : Nat} {w wr : World} {f : Nat → Nat} (h : Tab B w wr f) (hB : w.heap.size ≤ B) (m : Nat) (hm : m < 16) (c : Int) (hc : c = (f m : Int) + 1) (g : Nat → Nat) (hg : ∀ v, g v = f v + if m = v then 1 else 0) :
    Tab B w (wr.setCell ⟨B, m, none⟩ (.int .i64 c)) g := by
  refine ⟨fun v hv => ?_, fun v hv => ?_, h.grown.setCell hB _⟩
  · rw [hg v]
    by_cases e : m = v
    · subst e
      rw [World.cell?_setCell_same _ _ _ (h.cell m hm), hc, if_pos rfl]; rfl
    · rw [World.cell?_setCell_other _ _ _ _ (by intro h; cases h; exact e rfl), h.cell v hv, if_neg e]; rfl
  · rw [World.frozen?_setCell]; exact h.fz v hv
theorem Tab.start (w : World) (g : Nat → Nat) (hg : ∀ v, g v = 0) :
    Tab w.heap.size w (w.alloc (.cells #[.int .i64 0, .int .i64 0, .int .i64 0, .int .i64 0, .int .i64 0, .int .i64 0, .int .i64 0, .int .i64 0, .int .i64 0, .int .i64 0, .int .i64 0, .int .i64 0, .int .i64 0, .int .i64 0, .int .i64 0, .int .i64 0] 26)) g := by
  refine ⟨fun v hv => ?_, fun v hv => ?_, (Grown.refl _).alloc _ _⟩
  · rw [hg v]
    have : v = 0 ∨ v = 1 ∨ v = 2 ∨ v = 3 ∨ v = 4 ∨ v = 5 ∨ v = 6 ∨ v = 7 ∨ v = 8 ∨ v = 9 ∨ v = 10 ∨ v = 11 ∨ v = 12 ∨ v = 13 ∨ v = 14 ∨ v = 15 := by omega
    rcases this with rfl | rfl | rfl | rfl | rfl | rfl | rfl | rfl | rfl | rfl | rfl | rfl | rfl | rfl | rfl | rfl <;> simp [go_sem]
  · rw [frozen?_alloc_cells]
    simp [World.frozen?]

theorem int_eq {k : IntKind} {a b : Int} (h : a = b) : Value.int k a = Value.int k b := by rw [h]
theorem or_p0 (A v : Nat) (ha : A < 16 ^ 0) (hv : v < 16) : bits .or .u16 (A : Int) (v : Int) = ((A + 16 ^ 0 * v : Nat) : Int) := by
  have := u16_or_top 0 A v ha hv (by omega); simpa using this
theorem or_p1 (A v : Nat) (ha : A < 16 ^ 1) (hv : v < 16) : bits .or .u16 (A : Int) ((v : Int) * 16) = ((A + 16 ^ 1 * v : Nat) : Int) := by
  have := u16_or_top 1 A v ha hv (by omega); simpa using this
theorem or_p2 (A v : Nat) (ha : A < 16 ^ 2) (hv : v < 16) : bits .or .u16 (A : Int) ((v : Int) * 256) = ((A + 16 ^ 2 * v : Nat) : Int) := by
  have := u16_or_top 2 A v ha hv (by omega); simpa using this
theorem or_p3 (A v : Nat) (ha : A < 16 ^ 3) (hv : v < 16) : bits .or .u16 (A : Int) ((v : Int) * 4096) = ((A + 16 ^ 3 * v : Nat) : Int) := by
  have := u16_or_top 3 A v ha hv (by omega); simpa using this
theorem val_grow (L : List Nat) (k v : Nat) : val (L ++ List.replicate (k + 1) v) = val (L ++ List.replicate k v) + 16 ^ (L.length + k) * v := by
  rw [List.replicate_succ', ← List.append_assoc, val_append]
  simp [val]
theorem val_small (L : List Nat) (k v : Nat) (hL : ∀ x ∈ L, x < 16) (hv : v < 16) : val (L ++ List.replicate k v) < 16 ^ (L.length + k) := by
  have := val_lt (L ++ List.replicate k v) (by
    intro x hx
    rcases List.mem_append.1 hx with h | h
    · exact hL x h
    · rw [(List.mem_replicate.1 h).2]; exact hv)
  simpa using this

set_option maxHeartbeats 1600000 in
theorem rep_core (n : Int) (m0 m1 m2 m3 : Nat) (h0 : m0 < 16) (h1 : m1 < 16) (h2 : m2 < 16) (h3 : m3 < 16) (b0 : 0 ≤ n) (b1 : n ≤ 65535)
    (e0 : bits .and .u16 n 15 = m0) (e1 : bits .and .u16 (n / 16) 15 = m1) (e2 : bits .and .u16 (n / 256) 15 = m2) (e3 : bits .and .u16 (n / 4096) 15 = m3)
    (HN : Hid (n = word m0 m1 m2 m3)) (w : World) :
    Calls Trym.prog 6 #[.int .u16 n] w fun e w' => e = .returned (.bool true) ∧ Grown w w' := by
  go_enter Trym.func6, Trym.ntmps6
  go_wp2
  go_loopw [4] (fun i wr => ∃ k : Nat, k ≤ 4 ∧ i = .int .i64 k ∧ Tab w.heap.size w wr (fun v => ([m0, m1, m2, m3].take k).count v)) (fun i _ => 4 - (intOf i).toNat)
  case atStart => exact ⟨0, by omega, rfl, Tab.start w _ (fun v => rfl)⟩
  case round =>
    obtain ⟨k, hk, rfl, hT⟩ := hrel
    have hk' : k = 0 ∨ k = 1 ∨ k = 2 ∨ k = 3 ∨ k = 4 := by omega
    rcases hk' with rfl | rfl | rfl | rfl | rfl
    · have hc := hT.cell m0 h0
      have hf := hT.fz m0 h0
      have HT := hT
      clear hT
      generalize hce : ([m0, m1, m2, m3].take 0).count m0 = c at hc
      have HCE : Hid (([m0, m1, m2, m3].take 0).count m0 = c) := hce
      clear hce
      have hcl : (c : Int) ≤ 4 := by
        have := List.count_le_length (a := m0) (l := [m0, m1, m2, m3].take 0)
        rw [HCE.out] at this
        simp at this
        omega
      go_wp2
      go_roundw
      case rel => exact ⟨0+1, by omega, rfl, HT.step (Nat.le_refl _) m0 h0 _ (by rw [HCE.out]) _ (fun v => by simp [List.count_cons]; try omega)⟩
      case measure => simp [intOf]
    · have hc := hT.cell m1 h1
      have hf := hT.fz m1 h1
      have HT := hT
      clear hT
      generalize hce : ([m0, m1, m2, m3].take 1).count m1 = c at hc
      have HCE : Hid (([m0, m1, m2, m3].take 1).count m1 = c) := hce
      clear hce
      have hcl : (c : Int) ≤ 4 := by
        have := List.count_le_length (a := m1) (l := [m0, m1, m2, m3].take 1)
        rw [HCE.out] at this
        simp at this
        omega
      go_wp2
      go_roundw
      case rel => exact ⟨1+1, by omega, rfl, HT.step (Nat.le_refl _) m1 h1 _ (by rw [HCE.out]) _ (fun v => by simp [List.count_cons]; try omega)⟩
      case measure => simp [intOf]
    · have hc := hT.cell m2 h2
      have hf := hT.fz m2 h2
      have HT := hT
      clear hT
      generalize hce : ([m0, m1, m2, m3].take 2).count m2 = c at hc
      have HCE : Hid (([m0, m1, m2, m3].take 2).count m2 = c) := hce
      clear hce
      have hcl : (c : Int) ≤ 4 := by
        have := List.count_le_length (a := m2) (l := [m0, m1, m2, m3].take 2)
        rw [HCE.out] at this
        simp at this
        omega
      go_wp2
      go_roundw
      case rel => exact ⟨2+1, by omega, rfl, HT.step (Nat.le_refl _) m2 h2 _ (by rw [HCE.out]) _ (fun v => by simp [List.count_cons]; try omega)⟩
      case measure => simp [intOf]
    · have hc := hT.cell m3 h3
      have hf := hT.fz m3 h3
      have HT := hT
      clear hT
      generalize hce : ([m0, m1, m2, m3].take 3).count m3 = c at hc
      have HCE : Hid (([m0, m1, m2, m3].take 3).count m3 = c) := hce
      clear hce
      have hcl : (c : Int) ≤ 4 := by
        have := List.count_le_length (a := m3) (l := [m0, m1, m2, m3].take 3)
        rw [HCE.out] at this
        simp at this
        omega
      go_wp2
      go_roundw
      case rel => exact ⟨3+1, by omega, rfl, HT.step (Nat.le_refl _) m3 h3 _ (by rw [HCE.out]) _ (fun v => by simp [List.count_cons]; try omega)⟩
      case measure => simp [intOf]
    · obtain ⟨f, hf⟩ : ∃ f : Nat → Nat, f = fun v => ([m0, m1, m2, m3].take 4).count v := ⟨_, rfl⟩
      rw [← hf] at hT
      rw [show ((4 : Nat) : Int) = 4 from rfl]
      have HF : Hid (f = fun v => ([m0, m1, m2, m3]).count v) := hf
      clear hf
      go_wp2
      go_loop [5, 6, 7] (fun p q i => ∃ v : Nat, v ≤ 16 ∧ i = .int .i64 v ∧ p = .int .u16 (val (pre [m0, m1, m2, m3] v)) ∧ q = .int .i64 (pre [m0, m1, m2, m3] v).length) (fun _ _ i => 16 - (intOf i).toNat)
      case atStart => exact ⟨0, Nat.zero_le _, rfl, rfl, rfl⟩
      case round =>
        obtain ⟨v, hv, rfl, rfl, rfl⟩ := hrel
        by_cases hlt : v < 16
        · have hc := hT.cell v hlt
          go_wp2
          go_loop [5, 6, 8] (fun p q i => ∃ k : Nat, k ≤ f v ∧ i = .int .i64 k ∧ p = .int .u16 (val (pre [m0, m1, m2, m3] v ++ List.replicate k v)) ∧ q = .int .i64 ((pre [m0, m1, m2, m3] v).length + k : Nat)) (fun _ _ i => f v - (intOf i).toNat)
          case atStart => exact ⟨0, Nat.zero_le _, rfl, by simp, by simp⟩
          case round =>
            obtain ⟨k, hk, rfl, rfl, rfl⟩ := hrel
            have hp4 : (pre [m0, m1, m2, m3] v).length + f v ≤ 4 := by
              have := pre_length [m0, m1, m2, m3] v (f v) (by rw [HF.out]; exact Nat.le_refl _)
              simpa using this
            by_cases hkl : k < f v
            · have hb := val_small (pre [m0, m1, m2, m3] v) k v (fun x hx => by have := pre_lt _ _ x hx; omega) hlt
              have HS : Hid (val (pre [m0, m1, m2, m3] v ++ List.replicate (k + 1) v) = val (pre [m0, m1, m2, m3] v ++ List.replicate k v) + 16 ^ ((pre [m0, m1, m2, m3] v).length + k) * v) := val_grow _ _ _
              generalize hpe : (pre [m0, m1, m2, m3] v).length + k = p at *
              generalize hae : val (pre [m0, m1, m2, m3] v ++ List.replicate k v) = A at *
              have HP : Hid ((pre [m0, m1, m2, m3] v).length + k = p) := hpe
              clear hpe hae
              have hp' : p = 0 ∨ p = 1 ∨ p = 2 ∨ p = 3 := by have := HP.out; omega
              rcases hp' with rfl | rfl | rfl | rfl
              · go_wp2
                go_round
                case rel => exact ⟨k + 1, by omega, by go_num, int_eq ((or_p0 A v hb hlt).trans (by rw [HS.out])), int_eq (by have := HP.out; omega)⟩
                case measure => simp [intOf]; omega
              · go_wp2
                go_round
                case rel => exact ⟨k + 1, by omega, by go_num, int_eq ((or_p1 A v hb hlt).trans (by rw [HS.out])), int_eq (by have := HP.out; omega)⟩
                case measure => simp [intOf]; omega
              · go_wp2
                go_round
                case rel => exact ⟨k + 1, by omega, by go_num, int_eq ((or_p2 A v hb hlt).trans (by rw [HS.out])), int_eq (by have := HP.out; omega)⟩
                case measure => simp [intOf]; omega
              · go_wp2
                go_round
                case rel => exact ⟨k + 1, by omega, by go_num, int_eq ((or_p3 A v hb hlt).trans (by rw [HS.out])), int_eq (by have := HP.out; omega)⟩
                case measure => simp [intOf]; omega
            · have hkf : k = f v := by omega
              have HKF : Hid (k = f v) := hkf
              clear hkf
              go_wp2
              go_round
              case rel =>
                have e : pre [m0, m1, m2, m3] (v + 1) = pre [m0, m1, m2, m3] v ++ List.replicate k v := by rw [HKF.out, HF.out]; rfl
                exact ⟨v + 1, by omega, by go_num, by rw [e], by rw [e]; simp⟩
              case measure => simp [intOf]; omega
        · have hv16 : v = 16 := by omega
          subst hv16
          have HE : Hid (ascB m0 m1 m2 m3 = (((val (pre [m0, m1, m2, m3] 16) : Nat) : Int) == word m0 m1 m2 m3)) := repack_iff m0 m1 m2 m3 h0 h1 h2 h3
          have hG := hT.grown
          clear hT
          generalize val (pre [m0, m1, m2, m3] 16) = A at *
          have HE2 : ((A : Int) == n) = ascB m0 m1 m2 m3 := by rw [HE.out, ← HN.out]
          go_wp2_with fail
          refine (zzasc_n n m0 m1 m2 m3 HN.out ⟨by omega, by omega⟩ ⟨by omega, by omega⟩ ⟨by omega, by omega⟩ ⟨by omega, by omega⟩ _).mono ?_
          rintro e w' ⟨rfl, q, rfl⟩
          go_wp2_with fail
          go_ret
          exact ⟨ret_bool (by simp), hG⟩
end Go.Proofs.Qxb6600190aMods
