/-
  Seat b6630090a: the sign bit flipped, as a number: no walk here.
-/
import Derived.Test.Qxb6630090aCmp
import Derived.Laws.BitsAllLaws
namespace Go.Proofs.Qxb6630090a

theorem xor_low {n : Nat} (h : n < 2 ^ 63) : n ^^^ 2 ^ 63 = 2 ^ 63 + n := by
  apply Nat.eq_of_testBit_eq
  intro i
  rw [Nat.testBit_xor, Nat.testBit_two_pow]
  rcases Nat.lt_trichotomy i 63 with hi | rfl | hi
  · rw [Nat.testBit_two_pow_add_gt hi, decide_eq_false (by omega)]; simp
  · rw [Nat.testBit_two_pow_add_eq]; simp
  · have h1 : n < 2 ^ i := Nat.lt_of_lt_of_le h (Nat.pow_le_pow_right (by decide) (by omega))
    have h2 : 2 ^ 63 + n < 2 ^ i := by
      have : 2 ^ 64 ≤ 2 ^ i := Nat.pow_le_pow_right (by decide) (by omega)
      have e : (2:Nat) ^ 64 = 2 ^ 63 + 2 ^ 63 := by decide
      omega
    rw [Nat.testBit_lt_two_pow h1, Nat.testBit_lt_two_pow h2, decide_eq_false (by omega)]; simp
theorem xor_high {m : Nat} (h : m < 2 ^ 63) : (2 ^ 63 + m) ^^^ 2 ^ 63 = m := by
  rw [← xor_low h, Nat.xor_assoc, Nat.xor_self, Nat.xor_zero]

theorem flip {x : Int} (h0 : -9223372036854775808 ≤ x) (h1 : x ≤ 9223372036854775807) : bits .xor .u64 (IntKind.u64.wrap x) 9223372036854775808 = x + 9223372036854775808 := by
  have e63 : (9223372036854775808 : Int).toNat = 2 ^ 63 := by decide
  by_cases hn : 0 ≤ x
  · have ew : IntKind.u64.wrap x = x := IntWalk.u64_in x ⟨hn, by omega⟩
    rw [ew, u64_xor x _ hn (by omega) (by omega) (by omega), e63, xor_low (by omega)]
    omega
  · have ew : IntKind.u64.wrap x = x + 18446744073709551616 := by rw [IntKind.wrap_u64]; omega
    rw [ew, u64_xor _ _ (by omega) (by omega) (by omega) (by omega), e63]
    have e : (x + 18446744073709551616).toNat = 2 ^ 63 + (x + 9223372036854775808).toNat := by omega
    rw [e, xor_high (by omega)]
    omega

section
variable {x y : Int}
theorem b_lt (hx0 : -9223372036854775808 ≤ x) (hx1 : x ≤ 9223372036854775807) (hy0 : -9223372036854775808 ≤ y) (hy1 : y ≤ 9223372036854775807)
    (h : bits .xor .u64 (IntKind.u64.wrap x) 9223372036854775808 < bits .xor .u64 (IntKind.u64.wrap y) 9223372036854775808) : cmpI x y = -1 := by
  rw [flip hx0 hx1, flip hy0 hy1] at h
  exact cmp_lt (by omega)
theorem b_gt (hx0 : -9223372036854775808 ≤ x) (hx1 : x ≤ 9223372036854775807) (hy0 : -9223372036854775808 ≤ y) (hy1 : y ≤ 9223372036854775807)
    (h : bits .xor .u64 (IntKind.u64.wrap y) 9223372036854775808 < bits .xor .u64 (IntKind.u64.wrap x) 9223372036854775808) : cmpI x y = 1 := by
  rw [flip hx0 hx1, flip hy0 hy1] at h
  exact cmp_gt (by omega)
theorem b_eq (hx0 : -9223372036854775808 ≤ x) (hx1 : x ≤ 9223372036854775807) (hy0 : -9223372036854775808 ≤ y) (hy1 : y ≤ 9223372036854775807)
    (h : bits .xor .u64 (IntKind.u64.wrap y) 9223372036854775808 ≤ bits .xor .u64 (IntKind.u64.wrap x) 9223372036854775808)
    (h' : bits .xor .u64 (IntKind.u64.wrap x) 9223372036854775808 ≤ bits .xor .u64 (IntKind.u64.wrap y) 9223372036854775808) : cmpI x y = 0 := by
  rw [flip hx0 hx1, flip hy0 hy1] at h h'
  exact cmp_eq (by omega)
end
end Go.Proofs.Qxb6630090a
