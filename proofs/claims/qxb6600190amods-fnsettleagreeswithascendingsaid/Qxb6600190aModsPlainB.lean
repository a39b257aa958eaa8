/- Nibbles of a uint16: the plain mathematics of 'ascending' and 'pack4'. -/
import Derived.Laws.BitsAllLaws
namespace Go.Proofs.Qxb6600190aMods
set_option linter.unusedVariables false

/-- A nibble. -/
def Nib (x : Int) : Prop := 0 ≤ x ∧ x ≤ 15
/-- The word whose nibbles are x0 (lowest) to x3. -/
def word (x0 x1 x2 x3 : Int) : Int := x0 + 16 * x1 + 256 * x2 + 4096 * x3
/-- The four are in ascending order. -/
def ascB (x0 x1 x2 x3 : Int) : Bool := decide (x0 ≤ x1 ∧ x1 ≤ x2 ∧ x2 ≤ x3)

theorem u16_and15 (n : Int) (h0 : 0 ≤ n) (h1 : n ≤ 65535) : bits .and .u16 n 15 = n % 16 := by
  rw [u16_and n 15 h0 (by omega) (by omega) (by omega)]
  have : n.toNat &&& (15 : Int).toNat = n.toNat % 16 := Nat.and_two_pow_sub_one_eq_mod n.toNat 4
  rw [this]; omega

theorem word_nib0 {x0 x1 x2 x3 : Int} (h0 : Nib x0) (h1 : Nib x1) (h2 : Nib x2) (h3 : Nib x3) : bits .and .u16 (word x0 x1 x2 x3) 15 = x0 := by
  obtain ⟨_, _⟩ := h0; obtain ⟨_, _⟩ := h1; obtain ⟨_, _⟩ := h2; obtain ⟨_, _⟩ := h3
  unfold word; rw [u16_and15 _ (by omega) (by omega)]; omega
theorem word_nib1 {x0 x1 x2 x3 : Int} (h0 : Nib x0) (h1 : Nib x1) (h2 : Nib x2) (h3 : Nib x3) : bits .and .u16 (word x0 x1 x2 x3 / 16) 15 = x1 := by
  obtain ⟨_, _⟩ := h0; obtain ⟨_, _⟩ := h1; obtain ⟨_, _⟩ := h2; obtain ⟨_, _⟩ := h3
  unfold word; rw [u16_and15 _ (by omega) (by omega)]; omega
theorem word_nib2 {x0 x1 x2 x3 : Int} (h0 : Nib x0) (h1 : Nib x1) (h2 : Nib x2) (h3 : Nib x3) : bits .and .u16 (word x0 x1 x2 x3 / 256) 15 = x2 := by
  obtain ⟨_, _⟩ := h0; obtain ⟨_, _⟩ := h1; obtain ⟨_, _⟩ := h2; obtain ⟨_, _⟩ := h3
  unfold word; rw [u16_and15 _ (by omega) (by omega)]; omega
theorem word_nib3 {x0 x1 x2 x3 : Int} (h0 : Nib x0) (h1 : Nib x1) (h2 : Nib x2) (h3 : Nib x3) : bits .and .u16 (word x0 x1 x2 x3 / 4096) 15 = x3 := by
  obtain ⟨_, _⟩ := h0; obtain ⟨_, _⟩ := h1; obtain ⟨_, _⟩ := h2; obtain ⟨_, _⟩ := h3
  unfold word; rw [u16_and15 _ (by omega) (by omega)]; omega
theorem word_bd {x0 x1 x2 x3 : Int} (h0 : Nib x0) (h1 : Nib x1) (h2 : Nib x2) (h3 : Nib x3) : 0 ≤ word x0 x1 x2 x3 ∧ word x0 x1 x2 x3 ≤ 65535 := by
  obtain ⟨_, _⟩ := h0; obtain ⟨_, _⟩ := h1; obtain ⟨_, _⟩ := h2; obtain ⟨_, _⟩ := h3
  unfold word; omega
/-- Every uint16 is such a word. -/
theorem word_of (n : Int) (h0 : 0 ≤ n) (h1 : n ≤ 65535) : ∃ x0 x1 x2 x3, Nib x0 ∧ Nib x1 ∧ Nib x2 ∧ Nib x3 ∧ n = word x0 x1 x2 x3 :=
  ⟨n % 16, n / 16 % 16, n / 256 % 16, n / 4096 % 16, ⟨by omega, by omega⟩, ⟨by omega, by omega⟩, ⟨by omega, by omega⟩, ⟨by omega, by omega⟩, by unfold word; omega⟩
theorem word_inj {x0 x1 x2 x3 y0 y1 y2 y3 : Int} (h0 : Nib x0) (h1 : Nib x1) (h2 : Nib x2) (h3 : Nib x3) (k0 : Nib y0) (k1 : Nib y1) (k2 : Nib y2) (k3 : Nib y3)
    (h : word x0 x1 x2 x3 = word y0 y1 y2 y3) : x0 = y0 ∧ x1 = y1 ∧ x2 = y2 ∧ x3 = y3 := by
  obtain ⟨_, _⟩ := h0; obtain ⟨_, _⟩ := h1; obtain ⟨_, _⟩ := h2; obtain ⟨_, _⟩ := h3
  obtain ⟨_, _⟩ := k0; obtain ⟨_, _⟩ := k1; obtain ⟨_, _⟩ := k2; obtain ⟨_, _⟩ := k3
  unfold word at h; omega
end Go.Proofs.Qxb6600190aMods
