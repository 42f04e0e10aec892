/-
  Seat b6630014a: the first law: nameByteAccepts (11), acceptedByName (7), the bound on lengths (5), the law (3).
-/
import Derived.Test.Qxb6630014aMu
import Derived.Deep.QuietTactic
import Derived.BigQuiet
namespace Go.Proofs.Qxb6630014a
open Go.RowKit

set_option maxHeartbeats 400000 in
theorem nameByte_any (u c : Int) (w : World) (hu0 : 0 ≤ u) (hu1 : u ≤ 255) :
    Calls Try.prog 11 #[.int .u8 u, .int .u8 c] w fun e w' => e = .returned (.bool (accI u c)) ∧ w' = w := by
  by_cases ha : 97 ≤ u ∧ u ≤ 122
  · obtain ⟨ha1, ha2⟩ := ha
    have hfin : Hid (accI u c = false) := by unfold accI; exact decide_eq_false (by omega)
    go_enter Try.func11, Try.ntmps11
    go_wp2
    go_ret
    exact ⟨ret_bool hfin.out.symm, rfl⟩
  · by_cases hcu : c = u
    · have hfin : Hid (accI u c = true) := by unfold accI; exact decide_eq_true (by omega)
      subst hcu
      rcases (show c < 97 ∨ 122 < c by omega) with h | h
      all_goals
        go_enter Try.func11, Try.ntmps11
        go_wp2
        go_ret
        exact ⟨ret_bool hfin.out.symm, rfl⟩
    · have hb : (c == u) = false := beq_eq_false_iff_ne.2 hcu
      by_cases hl : 65 ≤ u ∧ u ≤ 90
      · obtain ⟨hl1, hl2⟩ := hl
        have hfin : Hid (accI u c = (c == u + 32)) := by
          unfold accI; rw [Bool.eq_iff_iff, decide_eq_true_eq, beq_iff_eq]; constructor <;> intro h <;> omega
        go_enter Try.func11, Try.ntmps11
        go_wp2
        go_ret
        exact ⟨ret_bool hfin.out.symm, rfl⟩
      · have hfin : Hid (accI u c = false) := by unfold accI; exact decide_eq_false (by omega)
        rcases (show u < 65 ∨ (90 < u ∧ u < 97) ∨ 122 < u by omega) with h | ⟨h, h'⟩ | h
        all_goals
          go_enter Try.func11, Try.ntmps11
          go_wp2
          go_ret
          exact ⟨ret_bool hfin.out.symm, rfl⟩

theorem drewN_more {w wr : World} (h : ∃ n, wr = w.drewN n) (m : Nat) : ∃ n, wr.drewN m = w.drewN n := by
  obtain ⟨n, rfl⟩ := h
  exact ⟨n + m, by rw [World.drewN_drewN]⟩

set_option maxHeartbeats 400000 in
theorem acc_any (s u : ByteArray) (w : World) (hs : s.size ≤ maxLen) :
    Calls Try.prog 7 #[.string s, .string u] w fun e w' => e = .returned (.bool (acc s u)) ∧ ∃ n, w' = w.drewN n := by
  unfold maxLen at hs
  by_cases hlen : s.size = u.size
  · have h1 : s.size ≤ u.size := by omega
    have h2 : u.size ≤ s.size := by omega
    clear hlen
    have hbs := get_bt s
    have hbu := get_bt u
    go_enter Try.func7, Try.ntmps7
    go_wp2
    go_loopw [5] (fun i wr => ∃ k : Nat, k ≤ u.size ∧ i = .int .i64 k ∧ Hid (∃ n, wr = w.drewN n) ∧ Hid (∀ j, j < k → accI (bt u j) (bt s j) = true)) (fun i _ => u.size - (intOf i).toNat)
    case atStart => exact ⟨0, Nat.zero_le _, rfl, ⟨0, rfl⟩, fun j hj => by omega⟩
    case round =>
      obtain ⟨k, hk, rfl, hw, hall⟩ := hrel
      have hn := bt_nonneg u k
      have hl := bt_le u k
      by_cases hlt : k < u.size
      · have hls : k < s.size := by omega
        cases hacc : accI (bt u k) (bt s k)
        · go_wp2
          go_quiet ((go_at_call 11; exact Calls.quiet_of_same (nameByte_any _ _ _ hn hl)))
          go_wp2
          go_ret
          exact ⟨ret_bool (acc_no k hlt hacc).symm, drewN_more hw.out _⟩
        · go_wp2
          go_quiet ((go_at_call 11; exact Calls.quiet_of_same (nameByte_any _ _ _ hn hl)))
          go_wp2
          go_roundw
          case rel => exact ⟨k + 1, by omega, by go_num, drewN_more hw.out _, all_succ hall.out hacc⟩
          case measure => simp [intOf]; omega
      · go_wp2
        go_ret
        exact ⟨ret_bool (acc_yes h1 h2 (fun j hj => hall.out j (by omega))).symm, hw.out⟩
  · have hne : ((s.size : Int) != (u.size : Int)) = true := by rw [bne_iff_ne]; omega
    go_enter Try.func7, Try.ntmps7
    go_wp2
    go_ret
    exact ⟨ret_bool (acc_no_len hlen).symm, 0, rfl⟩

theorem mu_any' (s u : ByteArray) (w : World) (hs : s.size ≤ maxLen) :
    Calls Try.prog 6 #[.string s, .string u] w fun e w' => e = .returned (.bool (acc s u)) ∧ w' = w := by
  have h := mu_any s u w hs
  rw [mu_acc] at h
  exact h

set_option maxHeartbeats 400000 in
theorem zzA_any (s u : ByteArray) (w : World) (hs : s.size ≤ maxLen) (hu : u.size ≤ maxLen) :
    Calls Try.prog 5 #[.string s, .string u] w fun e w' => ∃ b, e = .returned (.bool b) ∧ w = w' := by
  unfold maxLen at hs hu
  by_cases h1 : s.size ≤ 1048576
  · by_cases h2 : u.size ≤ 1048576
    · by_cases h3 : s.size + u.size ≤ 1048576
      all_goals
        go_enter Try.func5, Try.ntmps5
        go_wp2
        go_ret
        exact ⟨_, rfl, rfl⟩
    · go_enter Try.func5, Try.ntmps5
      go_wp2
      go_ret
      exact ⟨_, rfl, rfl⟩
  · go_enter Try.func5, Try.ntmps5
    go_wp2
    go_ret
    exact ⟨_, rfl, rfl⟩
end Go.Proofs.Qxb6630014a
