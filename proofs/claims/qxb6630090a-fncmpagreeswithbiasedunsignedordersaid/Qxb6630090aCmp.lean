/-
  Seat b6630090a: ZZnewAmount (5) and Cmp (7), walked once for both laws.
-/
import Derived.Test.Qxb6630090aRows
import Derived.WalkKit
import Derived.WalkSpells
import Derived.WalkLawsBesides
import Derived.Deep.RegionWith
namespace Go.Proofs.Qxb6630090a
open Go.RowKit

/-- What Cmp answers. -/
def cmpI (x y : Int) : Int := if x < y then -1 else if y < x then 1 else 0
theorem cmp_lt {x y : Int} (h : x < y) : cmpI x y = -1 := by unfold cmpI; rw [if_pos h]
theorem cmp_gt {x y : Int} (h : y < x) : cmpI x y = 1 := by unfold cmpI; rw [if_neg (by omega), if_pos h]
theorem cmp_eq {x y : Int} (h : x = y) : cmpI x y = 0 := by unfold cmpI; rw [if_neg (by omega), if_neg (by omega)]

theorem ret_int {k : IntKind} {a b : Int} (h : a = b) : Ending.returned (.int k a) = .returned (.int k b) := by rw [h]
theorem ret_bool {a b : Bool} (h : a = b) : Ending.returned (.bool a) = .returned (.bool b) := by rw [h]

/-- The block of an Amount of x fen. -/
abbrev am (x : Int) : Obj := .cells #[.int .i64 x] 23

set_option maxHeartbeats 400000 in
theorem new_any (x : Int) (w : World) :
    Calls Try.prog 5 #[.int .i64 x] w fun e w' => e = .returned (.agg #[.int .i64 x]) ∧ w' = w.alloc (am x) := by
  go_enter Try.func5, Try.ntmps5
  go_wp2
  exact bodyPost_ret (v := .agg #[.int .i64 x]) (by simp [results, Try.results5, go_sem]) rfl ⟨rfl, rfl⟩

set_option maxHeartbeats 400000 in
theorem cmp_any (x y : Int) (w : World) :
    Calls Try.prog 7 #[.agg #[.int .i64 x], .agg #[.int .i64 y]] w fun e w' => e = .returned (.int .i64 (cmpI x y)) ∧ w' = (w.alloc (am x)).alloc (am y) := by
  rcases (show x < y ∨ y < x ∨ x = y by omega) with h | h | h
  · have hf : Hid _ := cmp_lt h
    go_enter Try.func7, Try.ntmps7
    go_wp2
    go_ret
    exact ⟨ret_int hf.out.symm, rfl⟩
  · have hf : Hid _ := cmp_gt h
    go_enter Try.func7, Try.ntmps7
    go_wp2
    go_ret
    exact ⟨ret_int hf.out.symm, rfl⟩
  · have hf : Hid _ := cmp_eq h
    subst h
    go_enter Try.func7, Try.ntmps7
    go_wp2
    go_ret
    exact ⟨ret_int hf.out.symm, rfl⟩
end Go.Proofs.Qxb6630090a
