/- The walks of 'masked', 'other' and their shims. -/
import Derived.Test.Qxb6600190aModsRows
import Derived.Test.Qxb6600190aModsPlainA
import Derived.WalkKit
import Derived.WalkSpells
import Derived.RowKit3
namespace Go.Proofs.Qxb6600190aMods
open Go.RowKit
set_option linter.unusedVariables false

theorem msk_pos (n m i : Int) (h : bits .xor .u64 i m < n) : msk n m i = bits .xor .u64 i m := if_pos h
theorem msk_neg (n m i : Int) (h : ¬ bits .xor .u64 i m < n) : msk n m i = i := if_neg h
theorem ret_int {k : IntKind} {a b : Int} (h : a = b) : Ending.returned (.int k a) = .returned (.int k b) := by rw [h]

set_option maxHeartbeats 400000 in
/-- pairing.masked -/
theorem masked_any (n o m i : Int) (w : World) :
    Calls Trym.prog 21 #[.agg #[.int .u64 n, .int .u64 o, .int .u64 m], .int .u64 i] w fun e w' => e = .returned (.int .u64 (msk n m i)) ∧ ∃ c, w' = w.alloc (.cells c 41) := by
  by_cases h : bits .xor .u64 i m < n
  · have E : Hid (msk n m i = bits .xor .u64 i m) := msk_pos n m i h
    go_enter Trym.func21, Trym.ntmps21
    go_wp2
    go_ret
    exact ⟨ret_int E.out.symm, _, rfl⟩
  · have E : Hid (msk n m i = i) := msk_neg n m i h
    go_enter Trym.func21, Trym.ntmps21
    go_wp2
    go_ret
    exact ⟨ret_int E.out.symm, _, rfl⟩

set_option maxHeartbeats 400000 in
/-- ZZMasked -/
theorem zzmasked_any (n o m i : Int) (w : World) :
    Calls Trym.prog 12 #[.int .u64 n, .int .u64 o, .int .u64 m, .int .u64 i] w fun e w' => e = .returned (.int .u64 (msk n m i)) ∧ ∃ c, w' = w.alloc (.cells c 41) := by
  go_enter Trym.func12, Trym.ntmps12
  go_wp2_with (go_at_call 21; refine (masked_any n o m i _).mono ?_; rintro e w' ⟨rfl, c, rfl⟩)
  go_ret
  exact ⟨rfl, _, rfl⟩

set_option maxHeartbeats 400000 in
/-- pairing.other -/
theorem other_any (n o m i : Int) (hn : n ≤ 9223372036854775808) (ho : 0 ≤ o) (ho' : o < n) (hm : 0 ≤ m) (hm' : m < 18446744073709551616) (hi : 0 ≤ i) (hi' : i < n) (w : World) :
    Calls Trym.prog 20 #[.agg #[.int .u64 n, .int .u64 o, .int .u64 m], .int .u64 i] w fun e w' => e = .returned (.int .u64 (oth n o m i)) ∧ ∃ c1 c2 c3, w' = ((w.alloc (.cells c1 41)).alloc (.cells c2 41)).alloc (.cells c3 41) := by
  obtain ⟨b1, b2⟩ := msk_bd n m i hn hm hm' hi hi'
  by_cases h : msk n m i ≤ o
  · have E : Hid (oth n o m i = msk n m (o + n - msk n m i - n)) := by
      show oth n o m i = _
      unfold oth rfx
      rw [if_pos h]; congr 1; omega
    go_enter Trym.func20, Trym.ntmps20
    go_wp2_with fail
    refine (masked_any n o m i _).mono ?_
    rintro e w' ⟨rfl, c, rfl⟩
    go_wp2_with fail
    refine (masked_any n o m _ _).mono ?_
    rintro e w' ⟨rfl, c, rfl⟩
    go_wp2_with fail
    go_ret
    exact ⟨ret_int E.out.symm, _, _, _, rfl⟩
  · have E : Hid (oth n o m i = msk n m (o + n - msk n m i)) := by
      show oth n o m i = _
      unfold oth rfx
      rw [if_neg h]
    go_enter Trym.func20, Trym.ntmps20
    go_wp2_with fail
    refine (masked_any n o m i _).mono ?_
    rintro e w' ⟨rfl, c, rfl⟩
    go_wp2_with fail
    refine (masked_any n o m _ _).mono ?_
    rintro e w' ⟨rfl, c, rfl⟩
    go_wp2_with fail
    go_ret
    exact ⟨ret_int E.out.symm, _, _, _, rfl⟩

set_option maxHeartbeats 400000 in
/-- ZZOther -/
theorem zzother_any (n o m i : Int) (hn : n ≤ 9223372036854775808) (ho : 0 ≤ o) (ho' : o < n) (hm : 0 ≤ m) (hm' : m < 18446744073709551616) (hi : 0 ≤ i) (hi' : i < n) (w : World) :
    Calls Trym.prog 11 #[.int .u64 n, .int .u64 o, .int .u64 m, .int .u64 i] w fun e w' => e = .returned (.int .u64 (oth n o m i)) ∧ ∃ c1 c2 c3, w' = ((w.alloc (.cells c1 41)).alloc (.cells c2 41)).alloc (.cells c3 41) := by
  go_enter Trym.func11, Trym.ntmps11
  go_wp2_with fail
  refine (other_any n o m i hn ho ho' hm hm' hi hi' _).mono ?_
  rintro e w' ⟨rfl, c1, c2, c3, rfl⟩
  go_wp2_with fail
  go_ret
  exact ⟨rfl, _, _, _, rfl⟩
end Go.Proofs.Qxb6600190aMods
