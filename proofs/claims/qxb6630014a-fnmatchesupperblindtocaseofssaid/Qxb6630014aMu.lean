/-
  Seat b6630014a: MatchesUpper (function 6), walked once for both laws.
-/
import Derived.Test.Qxb6630014aRows
import Derived.Test.Qxb6630014aPlain
import Derived.WalkKit
import Derived.WalkSpells
import Derived.WalkLawsBesides
namespace Go.Proofs.Qxb6630014a
open Go.RowKit

theorem ret_bool {a b : Bool} (h : a = b) : Ending.returned (.bool a) = .returned (.bool b) := by rw [h]

set_option maxHeartbeats 400000 in
theorem mu_any (s u : ByteArray) (w : World) (hs : s.size ≤ maxLen) :
    Calls Try.prog 6 #[.string s, .string u] w fun e w' => e = .returned (.bool (mu s u)) ∧ w' = w := by
  unfold maxLen at hs
  by_cases hlen : s.size = u.size
  · have h1 : s.size ≤ u.size := by omega
    have h2 : u.size ≤ s.size := by omega
    clear hlen
    have hbs := get_bt s
    have hbu := get_bt u
    go_enter Try.func6, Try.ntmps6
    go_wp2
    go_loop [5] (fun i => ∃ k : Nat, k ≤ s.size ∧ i = .int .i64 k ∧ Hid (∀ j, j < k → upI (bt s j) = bt u j)) (fun i => s.size - (intOf i).toNat)
    case atStart => exact ⟨0, Nat.zero_le _, rfl, fun j hj => by omega⟩
    case round =>
      obtain ⟨k, hk, rfl, hall⟩ := hrel
      have hn := bt_nonneg s k
      have hl := bt_le s k
      by_cases hlt : k < s.size
      · have hlu : k < u.size := by omega
        rcases (show (97 ≤ bt s k ∧ bt s k ≤ 122) ∨ bt s k < 97 ∨ 122 < bt s k by omega) with hc | hc | hc
        · obtain ⟨hc1, hc2⟩ := hc
          have hup : Hid (upI (bt s k) = bt s k - 32) := up_lower hc1 hc2
          go_wp2
          · have ht : (bt s k - 32 != bt u k) = true := by assumption
            go_ret
            exact ⟨ret_bool (mu_no k hlt (by rw [hup.out]; simpa using ht)).symm, rfl⟩
          · have ht : (bt s k - 32 != bt u k) = false := by assumption
            go_round
            case rel => exact ⟨k + 1, by omega, by go_num, all_succ hall.out (by rw [hup.out]; simpa using ht)⟩
            case measure => simp [intOf]; omega
        all_goals
          have hup : Hid (upI (bt s k) = bt s k) := up_other (by omega)
          go_wp2
          · have ht : (bt s k != bt u k) = true := by assumption
            go_ret
            exact ⟨ret_bool (mu_no k hlt (by rw [hup.out]; simpa using ht)).symm, rfl⟩
          · have ht : (bt s k != bt u k) = false := by assumption
            go_round
            case rel => exact ⟨k + 1, by omega, by go_num, all_succ hall.out (by rw [hup.out]; simpa using ht)⟩
            case measure => simp [intOf]; omega
      · go_wp2
        go_ret
        exact ⟨ret_bool (mu_yes h1 h2 (fun j hj => hall.out j (by omega))).symm, rfl⟩
  · have hne : ((s.size : Int) != (u.size : Int)) = true := by rw [bne_iff_ne]; omega
    go_enter Try.func6, Try.ntmps6
    go_wp2
    go_ret
    exact ⟨ret_bool (mu_no_len hlen).symm, rfl⟩
end Go.Proofs.Qxb6630014a
