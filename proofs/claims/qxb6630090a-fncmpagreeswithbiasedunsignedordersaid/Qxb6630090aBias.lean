/-
  Seat b6630090a: zzBiasedOrder (6) and the law FnCmpAgreesWithBiasedUnsignedOrder (3), walked.
-/
import Derived.Test.Qxb6630090aBits
namespace Go.Proofs.Qxb6630090a
open Go.RowKit

set_option maxHeartbeats 400000 in
theorem bias_any (x y : Int) (w : World) (hx0 : -9223372036854775808 ≤ x) (hx1 : x ≤ 9223372036854775807) (hy0 : -9223372036854775808 ≤ y) (hy1 : y ≤ 9223372036854775807) :
    Calls Try.prog 6 #[.int .i64 x, .int .i64 y] w fun e w' => e = .returned (.int .i64 (cmpI x y)) ∧ w' = w := by
  go_enter Try.func6, Try.ntmps6
  go_wp2
  · go_ret
    exact ⟨ret_int (b_lt hx0 hx1 hy0 hy1 ‹_›).symm, rfl⟩
  · go_ret
    exact ⟨ret_int (b_gt hx0 hx1 hy0 hy1 ‹_›).symm, rfl⟩
  · go_ret
    exact ⟨ret_int (b_eq hx0 hx1 hy0 hy1 ‹_› ‹_›).symm, rfl⟩

theorem cmp_neg (x y : Int) : cmpI y x = -cmpI x y := by
  rcases (show x < y ∨ y < x ∨ x = y by omega) with h | h | h
  · rw [cmp_lt h, cmp_gt h]; rfl
  · rw [cmp_gt h, cmp_lt h]
  · rw [cmp_eq h, cmp_eq h.symm]; rfl
theorem cmp_bd (x y : Int) : -1 ≤ cmpI x y ∧ cmpI x y ≤ 1 := by
  rcases (show x < y ∨ y < x ∨ x = y by omega) with h | h | h
  · rw [cmp_lt h]; omega
  · rw [cmp_gt h]; omega
  · rw [cmp_eq h]; omega

set_option maxHeartbeats 1000000 in
theorem agrees_any (x y : Int) (w : World) (hx0 : -9223372036854775808 ≤ x) (hx1 : x ≤ 9223372036854775807) (hy0 : -9223372036854775808 ≤ y) (hy1 : y ≤ 9223372036854775807) :
    Calls Try.prog 3 #[.int .i64 x, .int .i64 y] w fun e w' => e = .returned (.bool true) ∧ Below w.heap.size w w' := by
  have hbd := cmp_bd x y
  obtain ⟨hb0, hb1⟩ := hbd
  go_enter Try.func3, Try.ntmps3
  go_wp2_with (go_at_call 5; refine (new_any _ _).mono ?_; rintro e w' ⟨rfl, rfl⟩)
  refine (bias_any x y _ hx0 hx1 hy0 hy1).mono ?_
  rintro e w' ⟨rfl, rfl⟩
  go_wp2_with fail
  refine (cmp_any x y _).mono ?_
  rintro e w' ⟨rfl, rfl⟩
  go_wp2_with fail
  refine (cmp_any y x _).mono ?_
  rintro e w' ⟨rfl, rfl⟩
  rw [cmp_neg x y]
  go_wp2_with fail
  go_ret
  refine ⟨rfl, ?_⟩
  repeat (first | exact Below.refl _ _ | refine Below.drew ?_ | refine Below.alloc ?_ (by simp; try omega) _)
end Go.Proofs.Qxb6630090a
