/-
  Seat b6630090a: the law FnCmpStepOneFen (4), walked.
-/
import Derived.Test.Qxb6630090aCmp
namespace Go.Proofs.Qxb6630090a
open Go.RowKit

theorem sA {x y : Int} (h1 : (y == x) = true) : (cmpI (x + 1) y == 1) = true := by
  have h : y = x := by simpa using h1
  rw [cmp_gt (by omega)]; rfl
theorem sA' {x y : Int} (h1 : (y == x) = true) (h2 : ¬ cmpI x y = 0) : False := by
  have h : y = x := by simpa using h1
  exact h2 (cmp_eq h.symm)
theorem sB {x y : Int} (h1 : (y == x + 1) = true) : (cmpI (x + 1) y == 0) = true := by
  have h : y = x + 1 := by simpa using h1
  rw [cmp_eq h.symm]; rfl
theorem sB' {x y : Int} (h1 : (y == x + 1) = true) (h2 : ¬ cmpI x y = -1) : False := by
  have h : y = x + 1 := by simpa using h1
  exact h2 (cmp_lt (by omega))
theorem sC {x y : Int} (h1 : (y == x) = false) (h2 : (y == x + 1) = false) (h3 : ¬ cmpI x y = cmpI (x + 1) y) : False := by
  have h : y ≠ x := by simpa using h1
  have h' : y ≠ x + 1 := by simpa using h2
  rcases (show y < x ∨ x + 1 < y by omega) with g | g
  · exact h3 (by rw [cmp_gt g, cmp_gt (by omega)])
  · exact h3 (by rw [cmp_lt (by omega), cmp_lt g])
theorem sD {x y : Int} (h1 : (y == x) = false) (h2 : (y == x + 1) = false) : (cmpI (x + 1) y == 1 || cmpI (x + 1) y == -1) = true := by
  have h : y ≠ x := by simpa using h1
  have h' : y ≠ x + 1 := by simpa using h2
  rcases (show y < x ∨ x + 1 < y by omega) with g | g
  · rw [cmp_gt (by omega)]; rfl
  · rw [cmp_lt g]; rfl

set_option maxHeartbeats 2000000 in
theorem step_any (x y : Int) (w : World) (hx0 : -9223372036854775808 ≤ x) (hx1 : x ≤ 9223372036854775806) :
    Calls Try.prog 4 #[.int .i64 x, .int .i64 y] w fun e w' => e = .returned (.bool true) ∧ Below w.heap.size w w' := by
  go_enter Try.func4, Try.ntmps4
  go_wp2_with (go_at_call 5; refine (new_any _ _).mono ?_; rintro e w' ⟨rfl, rfl⟩)
  go_region_with (first | (go_at_call 5; refine (new_any _ _).mono ?_; rintro e w' ⟨rfl, rfl⟩) | (go_at_call 7; refine (cmp_any _ _ _).mono ?_; rintro e w' ⟨rfl, rfl⟩))
  all_goals
    go_wp2_with fail
    go_region_with (first | (go_at_call 5; refine (new_any _ _).mono ?_; rintro e w' ⟨rfl, rfl⟩) | (go_at_call 7; refine (cmp_any _ _ _).mono ?_; rintro e w' ⟨rfl, rfl⟩))
  all_goals
    go_wp2_with fail
  all_goals first
    | exact (sA' ‹(y == x) = true› ‹¬ cmpI x y = 0›).elim
    | exact (sB' ‹(y == x + 1) = true› ‹¬ cmpI x y = -1›).elim
    | exact (sC ‹(y == x) = false› ‹(y == x + 1) = false› ‹¬ cmpI x y = cmpI (x + 1) y›).elim
    | go_ret
  all_goals
    refine ⟨ret_bool ?_, ?_⟩
    · first
        | exact sA ‹(y == x) = true›
        | exact sB ‹(y == x + 1) = true›
        | exact sD ‹(y == x) = false› ‹(y == x + 1) = false›
        | rfl
    · repeat (first | exact Below.refl _ _ | refine Below.drew ?_ | refine Below.alloc ?_ (by simp; try omega) _)

set_option maxHeartbeats 400000 in
theorem step_max (y : Int) (w : World) :
    Calls Try.prog 4 #[.int .i64 9223372036854775807, .int .i64 y] w fun e w' => e = .returned (.bool true) ∧ Below w.heap.size w w' := by
  go_enter Try.func4, Try.ntmps4
  go_wp2_with fail
  go_ret
  exact ⟨rfl, Below.refl _ _⟩
end Go.Proofs.Qxb6630090a
