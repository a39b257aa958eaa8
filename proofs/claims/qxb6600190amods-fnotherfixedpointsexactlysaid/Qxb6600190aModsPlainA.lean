/- The plain mathematics of 'masked' and 'other': no Go in sight but the model's own 'bits'. -/
import Derived.Laws.BitsAllLaws
namespace Go.Proofs.Qxb6600190aMods
set_option linter.unusedVariables false


/-- pairing.masked: bucket i with the mask XORed in, where that is a bucket; else i. -/
def msk (n m i : Int) : Int := if bits .xor .u64 i m < n then bits .xor .u64 i m else i
/-- The reflection about the offset. -/
def rfx (n o j : Int) : Int := if j ≤ o then o - j else o + n - j
/-- pairing.other. -/
def oth (n o m i : Int) : Int := msk n m (rfx n o (msk n m i))

theorem xor_nonneg (i m : Int) (hi : 0 ≤ i) (hi' : i < 18446744073709551616) (hm : 0 ≤ m) (hm' : m < 18446744073709551616) : 0 ≤ bits .xor .u64 i m ∧ bits .xor .u64 i m < 18446744073709551616 := by
  rw [u64_xor i m hi hi' hm hm']
  have : i.toNat ^^^ m.toNat < 2 ^ 64 := Nat.xor_lt_two_pow (by omega) (by omega)
  omega

theorem xor_xor (i m : Int) (hi : 0 ≤ i) (hi' : i < 18446744073709551616) (hm : 0 ≤ m) (hm' : m < 18446744073709551616) : bits .xor .u64 (bits .xor .u64 i m) m = i := by
  have h := xor_nonneg i m hi hi' hm hm'
  rw [u64_xor _ m h.1 h.2 hm hm', u64_xor i m hi hi' hm hm', Int.toNat_natCast, Nat.xor_assoc, Nat.xor_self, Nat.xor_zero]
  omega

theorem msk_bd (n m i : Int) (hn : n ≤ 9223372036854775808) (hm : 0 ≤ m) (hm' : m < 18446744073709551616) (hi : 0 ≤ i) (hi' : i < n) : 0 ≤ msk n m i ∧ msk n m i < n := by
  have h := xor_nonneg i m hi (by omega) hm hm'
  unfold msk
  split <;> omega

theorem msk_msk (n m i : Int) (hn : n ≤ 9223372036854775808) (hm : 0 ≤ m) (hm' : m < 18446744073709551616) (hi : 0 ≤ i) (hi' : i < n) : msk n m (msk n m i) = i := by
  have h := xor_xor i m hi (by omega) hm hm'
  unfold msk
  by_cases c : bits .xor .u64 i m < n
  · rw [if_pos c, h, if_pos hi']
  · rw [if_neg c, if_neg c]

theorem rfx_bd (n o j : Int) (ho : 0 ≤ o) (ho' : o < n) (hj : 0 ≤ j) (hj' : j < n) : 0 ≤ rfx n o j ∧ rfx n o j < n := by
  unfold rfx; split <;> omega
theorem rfx_refl (n o j : Int) (ho : 0 ≤ o) (ho' : o < n) (hj : 0 ≤ j) (hj' : j < n) : rfx n o (rfx n o j) = j := by
  unfold rfx; split <;> split <;> omega
theorem rfx_sum (n o j : Int) (ho : 0 ≤ o) (ho' : o < n) (hj : 0 ≤ j) (hj' : j < n) : (j + rfx n o j) % n = o := by
  unfold rfx; split
  · rw [show j + (o - j) = o by omega]; exact Int.emod_eq_of_lt ho ho'
  · rw [show j + (o + n - j) = o + n by omega, Int.add_emod_right]; exact Int.emod_eq_of_lt ho ho'

theorem oth_bd (n o m i : Int) (hn : n ≤ 9223372036854775808) (ho : 0 ≤ o) (ho' : o < n) (hm : 0 ≤ m) (hm' : m < 18446744073709551616) (hi : 0 ≤ i) (hi' : i < n) : 0 ≤ oth n o m i ∧ oth n o m i < n := by
  have a := msk_bd n m i hn hm hm' hi hi'
  have b := rfx_bd n o _ ho ho' a.1 a.2
  exact msk_bd n m _ hn hm hm' b.1 b.2

theorem msk_oth (n o m i : Int) (hn : n ≤ 9223372036854775808) (ho : 0 ≤ o) (ho' : o < n) (hm : 0 ≤ m) (hm' : m < 18446744073709551616) (hi : 0 ≤ i) (hi' : i < n) : msk n m (oth n o m i) = rfx n o (msk n m i) := by
  have a := msk_bd n m i hn hm hm' hi hi'
  have b := rfx_bd n o _ ho ho' a.1 a.2
  exact msk_msk n m _ hn hm hm' b.1 b.2

theorem oth_oth (n o m i : Int) (hn : n ≤ 9223372036854775808) (ho : 0 ≤ o) (ho' : o < n) (hm : 0 ≤ m) (hm' : m < 18446744073709551616) (hi : 0 ≤ i) (hi' : i < n) : oth n o m (oth n o m i) = i := by
  have a := msk_bd n m i hn hm hm' hi hi'
  show msk n m (rfx n o (msk n m (oth n o m i))) = i
  rw [msk_oth n o m i hn ho ho' hm hm' hi hi', rfx_refl n o _ ho ho' a.1 a.2, msk_msk n m i hn hm hm' hi hi']

theorem sum_oth (n o m i : Int) (hn : n ≤ 9223372036854775808) (ho : 0 ≤ o) (ho' : o < n) (hm : 0 ≤ m) (hm' : m < 18446744073709551616) (hi : 0 ≤ i) (hi' : i < n) : (msk n m i + msk n m (oth n o m i)) % n = o := by
  have a := msk_bd n m i hn hm hm' hi hi'
  rw [msk_oth n o m i hn ho ho' hm hm' hi hi']
  exact rfx_sum n o _ ho ho' a.1 a.2

/-- With no mask the answer is (offset - i) mod buckets. -/
theorem oth_zero (n o i : Int) (hn : n ≤ 9223372036854775808) (ho : 0 ≤ o) (ho' : o < n) (hi : 0 ≤ i) (hi' : i < n) : oth n o 0 i = (o + n - i) % n := by
  have hz : ∀ k : Int, 0 ≤ k → k < n → msk n 0 k = k := by
    intro k hk hk'
    have e : bits .xor .u64 k 0 = k := by
      rw [u64_xor k 0 hk (by omega) (by omega) (by omega)]; simp; omega
    unfold msk; rw [e]; split <;> rfl
  have b := rfx_bd n o i ho ho' hi hi'
  unfold oth
  rw [hz i hi hi', hz _ b.1 b.2]
  unfold rfx
  split
  · rw [show o + n - i = (o - i) + n by omega, Int.add_emod_right]; exact (Int.emod_eq_of_lt (by omega) (by omega)).symm
  · exact (Int.emod_eq_of_lt (by omega) (by omega)).symm

/-- i is its own pair exactly where twice its masked value is the offset mod n. -/
theorem oth_fixed (n o m i : Int) (hn : n ≤ 9223372036854775808) (ho : 0 ≤ o) (ho' : o < n) (hm : 0 ≤ m) (hm' : m < 18446744073709551616) (hi : 0 ≤ i) (hi' : i < n) : oth n o m i = i ↔ rfx n o (msk n m i) = msk n m i := by
  constructor
  · intro h
    rw [← msk_oth n o m i hn ho ho' hm hm' hi hi', h]
  · intro h
    unfold oth
    rw [h, msk_msk n m i hn hm hm' hi hi']

/-- Twice a bucket, mod n, without a remainder. -/
theorem twice_mod (n j : Int) (hj : 0 ≤ j) (hj' : j < n) : (2 * j) % n = if 2 * j < n then 2 * j else 2 * j - n := by
  split
  · exact Int.emod_eq_of_lt (by omega) (by omega)
  · rw [show 2 * j = (2 * j - n) + n by omega, Int.add_emod_right]; rw [Int.emod_eq_of_lt (by omega) (by omega)]; omega

theorem rfx_fixed (n o j : Int) (ho : 0 ≤ o) (ho' : o < n) (hj : 0 ≤ j) (hj' : j < n) : rfx n o j = j ↔ (2 * j) % n = o := by
  rw [twice_mod n j hj hj']
  unfold rfx
  split <;> split <;> omega
end Go.Proofs.Qxb6600190aMods
