/- The counting sort of a word's four nibbles: plain lists. -/
import Derived.Test.Qxb6600190aModsPlainB
namespace Go.Proofs.Qxb6600190aMods
set_option linter.unusedVariables false

/-- The nibbles below v, each as often as it stands in l, in ascending order. -/
def pre (l : List Nat) : Nat → List Nat
  | 0 => []
  | v + 1 => pre l v ++ List.replicate (l.count v) v
/-- The number whose nibbles are xs, the lowest first. -/
def val : List Nat → Nat
  | [] => 0
  | x :: xs => x + 16 * val xs

theorem val_append (xs ys : List Nat) : val (xs ++ ys) = val xs + 16 ^ xs.length * val ys := by
  induction xs with
  | nil => simp [val]
  | cons x xs ih =>
    simp only [List.cons_append, val, ih, List.length_cons, Nat.pow_succ]
    rw [Nat.mul_add, ← Nat.mul_assoc, Nat.mul_comm 16 (16 ^ xs.length)]; omega
theorem val_lt (xs : List Nat) (h : ∀ x ∈ xs, x < 16) : val xs < 16 ^ xs.length := by
  induction xs with
  | nil => simp [val]
  | cons x xs ih =>
    have a := h x (by simp)
    have b := ih (fun y hy => h y (by simp [hy]))
    simp [val, Nat.pow_succ]; omega

theorem pre_lt (l : List Nat) (v : Nat) : ∀ x ∈ pre l v, x < v := by
  induction v with
  | zero => simp [pre]
  | succ v ih =>
    intro x hx
    simp only [pre, List.mem_append, List.mem_replicate] at hx
    rcases hx with hx | hx
    · have := ih x hx; omega
    · omega
theorem pre_count (l : List Nat) (v x : Nat) : (pre l v).count x = if x < v then l.count x else 0 := by
  induction v with
  | zero => simp [pre]
  | succ v ih =>
    simp only [pre, List.count_append, ih, List.count_replicate]
    by_cases h : x = v
    · subst h; simp
    · have : ¬ v = x := fun e => h e.symm
      by_cases h2 : x < v
      · simp [h2, this, show x < v + 1 by omega]
      · simp [h2, this, show ¬ x < v + 1 by omega]
theorem pre_sorted (l : List Nat) (v : Nat) : (pre l v).Pairwise (· ≤ ·) := by
  induction v with
  | zero => simp [pre]
  | succ v ih =>
    simp only [pre, List.pairwise_append]
    refine ⟨ih, ?_, ?_⟩
    · simp [List.pairwise_replicate]
    · intro a ha b hb
      have h1 := pre_lt l v a ha
      have h2 := (List.mem_replicate.1 hb).2
      omega
theorem pre_perm (l : List Nat) (v : Nat) (h : ∀ x ∈ l, x < v) : (pre l v).Perm l := by
  rw [List.perm_iff_count]
  intro x
  rw [pre_count]
  split
  · rfl
  · rename_i hx
    exact (List.count_eq_zero.2 (fun hm => hx (h x hm))).symm
theorem countP_step (l : List Nat) (v : Nat) : l.countP (· < v) + l.count v = l.countP (· < v + 1) := by
  induction l with
  | nil => rfl
  | cons y ys ihl =>
    simp only [List.countP_cons, List.count_cons]
    by_cases a : y < v
    · have : ¬ y = v := by omega
      simp [a, this, show y < v + 1 by omega]; omega
    · by_cases b : y = v
      · subst b; simp; omega
      · simp [a, b, show ¬ y < v + 1 by omega]; omega
/-- How long the list is on the way. -/
theorem pre_length (l : List Nat) (v k : Nat) (hk : k ≤ l.count v) : (pre l v).length + k ≤ l.length := by
  have key : ∀ v, (pre l v).length = l.countP (· < v) := by
    intro v
    induction v with
    | zero => simp [pre]
    | succ v ih => simp only [pre, List.length_append, List.length_replicate, ih]; exact countP_step l v
  have h1 := key (v + 1)
  simp only [pre, List.length_append, List.length_replicate] at h1
  have h2 : l.countP (· < v + 1) ≤ l.length := List.countP_le_length
  omega
theorem pre_full (l : List Nat) (v : Nat) (h : ∀ x ∈ l, x < v) : (pre l v).length = l.length := (pre_perm l v h).length_eq
theorem pre_eq_iff (l : List Nat) (v : Nat) (h : ∀ x ∈ l, x < v) : pre l v = l ↔ l.Pairwise (· ≤ ·) := by
  constructor
  · intro e; rw [← e]; exact pre_sorted l v
  · intro p; exact (pre_perm l v h).eq_of_pairwise (fun a b _ _ => Nat.le_antisymm) (pre_sorted l v) p
theorem val_inj (xs ys : List Nat) (hl : xs.length = ys.length) (hx : ∀ x ∈ xs, x < 16) (hy : ∀ y ∈ ys, y < 16) (h : val xs = val ys) : xs = ys := by
  induction xs generalizing ys with
  | nil => cases ys with
    | nil => rfl
    | cons y ys => simp at hl
  | cons x xs ih => cases ys with
    | nil => simp at hl
    | cons y ys =>
      simp only [val] at h
      have a := hx x (by simp)
      have b := hy y (by simp)
      have e1 : x = y := by omega
      have e2 : val xs = val ys := by omega
      rw [e1, ih ys (by simpa using hl) (fun z hz => hx z (by simp [hz])) (fun z hz => hy z (by simp [hz])) e2]

/-- THE LAW: the counting sort gives the word back exactly where its nibbles ascend. -/
theorem repack_iff (m0 m1 m2 m3 : Nat) (h0 : m0 < 16) (h1 : m1 < 16) (h2 : m2 < 16) (h3 : m3 < 16) :
    ascB m0 m1 m2 m3 = (((val (pre [m0, m1, m2, m3] 16) : Nat) : Int) == word m0 m1 m2 m3) := by
  have hl : ∀ x ∈ [m0, m1, m2, m3], x < 16 := by simp; omega
  have e : word m0 m1 m2 m3 = ((val [m0, m1, m2, m3] : Nat) : Int) := by simp only [word, val]; omega
  rw [Bool.eq_iff_iff, e]
  simp only [ascB, decide_eq_true_eq, beq_iff_eq]
  constructor
  · intro h
    rw [(pre_eq_iff _ 16 hl).2 (by simp; omega)]
  · intro h
    have h' : pre [m0, m1, m2, m3] 16 = [m0, m1, m2, m3] := val_inj _ _ (pre_full _ 16 hl) (pre_lt _ 16) hl (by omega)
    have p := (pre_eq_iff _ 16 hl).1 h'
    simp at p
    omega

theorem u16_or_top (p : Nat) (a : Nat) (v : Nat) (ha : a < 16 ^ p) (hv : v < 16) (hp : p ≤ 3) : bits .or .u16 (a : Int) ((v : Int) * (16 ^ p : Nat)) = ((a + 16 ^ p * v : Nat) : Int) := by
  have hp4 : 16 ^ p = 2 ^ (4 * p) := by rw [Nat.pow_mul]
  have hle : 16 ^ p ≤ 4096 := by
    have : p = 0 ∨ p = 1 ∨ p = 2 ∨ p = 3 := by omega
    rcases this with rfl | rfl | rfl | rfl <;> decide
  have hmul : v * 16 ^ p < 65536 := by
    have : v * 16 ^ p ≤ 15 * 4096 := Nat.mul_le_mul (by omega) hle
    omega
  rw [show (v : Int) * ((16 ^ p : Nat) : Int) = ((v * 16 ^ p : Nat) : Int) by simp]
  rw [u16_or_nat a (v * 16 ^ p) (by omega) hmul]
  congr 1
  rw [hp4] at ha ⊢
  rw [Nat.or_comm, Nat.mul_comm v, ← Nat.two_pow_add_eq_or_of_lt ha]
  omega
end Go.Proofs.Qxb6600190aMods
