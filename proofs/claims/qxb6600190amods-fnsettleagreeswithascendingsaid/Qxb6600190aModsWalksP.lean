/- The walk of pack4. -/
import Derived.Test.Qxb6600190aModsWalksB
namespace Go.Proofs.Qxb6600190aMods
open Go.RowKit
set_option linter.unusedVariables false

theorem u32_and15 (n : Int) (h0 : 0 ≤ n) (h1 : n ≤ 4294967295) : bits .and .u32 n 15 = n % 16 := by
  rw [u32_and n 15 h0 (by omega) (by omega) (by omega)]
  have : n.toNat &&& (15 : Int).toNat = n.toNat % 16 := Nat.and_two_pow_sub_one_eq_mod n.toNat 4
  rw [this]; omega
/-- OR of a low part below 2^j with a nibble above it is their sum. -/
theorem or_add (j : Nat) (a v : Int) (ha : 0 ≤ a) (ha' : a < (2 ^ j : Nat)) (hv : Nib v) (hj : j ≤ 12) : bits .or .u16 a (v * (2 ^ j : Nat)) = a + v * (2 ^ j : Nat) := by
  obtain ⟨v0, v1⟩ := hv
  obtain ⟨a, rfl⟩ := Int.eq_ofNat_of_zero_le ha
  obtain ⟨v, rfl⟩ := Int.eq_ofNat_of_zero_le v0
  have hle : 2 ^ j ≤ 2 ^ 12 := Nat.pow_le_pow_right (by omega) hj
  have hmul : v * 2 ^ j ≤ 15 * 2 ^ 12 := Nat.mul_le_mul (by omega) hle
  have ha2 : a < 2 ^ j := by omega
  rw [show (v : Int) * ((2 ^ j : Nat) : Int) = ((v * 2 ^ j : Nat) : Int) by simp]
  rw [u16_or_nat a (v * 2 ^ j) (by omega) (by omega)]
  rw [Nat.or_comm, Nat.mul_comm v, ← Nat.two_pow_add_eq_or_of_lt ha2]
  omega

set_option maxHeartbeats 800000 in
theorem pack_core (y0 y1 y2 y3 p1 p2 p3 : Int) (a0 : 0 ≤ y0) (b0 : y0 ≤ 15) (a1 : 0 ≤ y1) (b1 : y1 ≤ 15) (a2 : 0 ≤ y2) (b2 : y2 ≤ 15) (a3 : 0 ≤ y3) (b3 : y3 ≤ 15)
    (e0 : bits .and .u32 y0 15 = y0) (e1 : bits .and .u32 y1 15 = y1) (e2 : bits .and .u32 y2 15 = y2) (e3 : bits .and .u32 y3 15 = y3)
    (f1 : bits .or .u16 y0 (y1 * 16) = p1) (f2 : bits .or .u16 p1 (y2 * 256) = p2) (f3 : bits .or .u16 p2 (y3 * 4096) = p3) (w : World) :
    Calls Trym.prog 16 #[.agg #[.int .u32 y0, .int .u32 y1, .int .u32 y2, .int .u32 y3]] w fun e w' => e = .returned (.int .u16 p3) ∧ ∃ c, w' = w.alloc (.cells c 30) := by
  go_enter Trym.func16, Trym.ntmps16
  go_wp2
  go_ret
  exact ⟨rfl, _, rfl⟩
theorem and15_nib (y : Int) (h : Nib y) : bits .and .u32 y 15 = y := by
  obtain ⟨_, _⟩ := h
  rw [u32_and15 y (by omega) (by omega)]; omega
/-- pack4 of four nibbles -/
theorem pack_any (y0 y1 y2 y3 : Int) (h0 : Nib y0) (h1 : Nib y1) (h2 : Nib y2) (h3 : Nib y3) (w : World) :
    Calls Trym.prog 16 #[.agg #[.int .u32 y0, .int .u32 y1, .int .u32 y2, .int .u32 y3]] w fun e w' => e = .returned (.int .u16 (word y0 y1 y2 y3)) ∧ ∃ c, w' = w.alloc (.cells c 30) := by
  have g0 := h0; have g1 := h1; have g2 := h2; have g3 := h3
  obtain ⟨a0, b0⟩ := g0; obtain ⟨a1, b1⟩ := g1; obtain ⟨a2, b2⟩ := g2; obtain ⟨a3, b3⟩ := g3
  refine pack_core y0 y1 y2 y3 (y0 + y1 * 16) (y0 + y1 * 16 + y2 * 256) (word y0 y1 y2 y3) a0 b0 a1 b1 a2 b2 a3 b3 (and15_nib _ h0) (and15_nib _ h1) (and15_nib _ h2) (and15_nib _ h3) ?_ ?_ ?_ w
  · exact or_add 4 y0 y1 a0 (by omega) h1 (by omega)
  · exact or_add 8 (y0 + y1 * 16) y2 (by omega) (by omega) h2 (by omega)
  · rw [show word y0 y1 y2 y3 = y0 + y1 * 16 + y2 * 256 + y3 * 4096 by unfold word; omega]
    exact or_add 12 (y0 + y1 * 16 + y2 * 256) y3 (by omega) (by omega) h3 (by omega)
end Go.Proofs.Qxb6600190aMods
