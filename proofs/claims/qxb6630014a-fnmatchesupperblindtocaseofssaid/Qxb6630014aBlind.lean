/-
  Seat b6630014a: the second law's bound on lengths (8), and its plain law.
-/
import Derived.Test.Qxb6630014aFlip
namespace Go.Proofs.Qxb6630014a
open Go.RowKit

theorem mu_blind {s t : ByteArray} (hl : t.size = s.size) (h : ∀ j, j < s.size → upI (bt t j) = upI (bt s j)) (u : ByteArray) : mu t u = mu s u := by
  unfold mu
  rw [Bool.eq_iff_iff, decide_eq_true_eq, decide_eq_true_eq, hl]
  constructor
  · rintro ⟨h1, h2⟩
    exact ⟨h1, fun k hk => by rw [← h k hk]; exact h2 k hk⟩
  · rintro ⟨h1, h2⟩
    exact ⟨h1, fun k hk => by rw [h k hk]; exact h2 k hk⟩
theorem mu_name {s t nm : ByteArray} (hl : t.size = s.size) (hn : nm.size = s.size) (h : ∀ j, j < s.size → upI (bt t j) = upI (bt s j)) (hnm : ∀ j, j < s.size → bt nm j = upI (bt s j)) : mu t nm = true :=
  mu_yes (by omega) (by omega) (fun j hj => by rw [h j (by omega), hnm j (by omega)])

set_option maxHeartbeats 400000 in
theorem zzB_any (s u : ByteArray) (k : Int) (w : World) (hs : s.size ≤ maxLen) (hu : u.size ≤ maxLen) :
    Calls Try.prog 8 #[.string s, .string u, .int .i64 k] w fun e w' => ∃ b, e = .returned (.bool b) ∧ w = w' := by
  unfold maxLen at hs hu
  by_cases h1 : s.size ≤ 1048576
  · by_cases h2 : u.size ≤ 1048576
    · by_cases h3 : s.size + u.size ≤ 1048576
      all_goals
        go_enter Try.func8, Try.ntmps8
        go_wp2
        go_ret
        exact ⟨_, rfl, rfl⟩
    · go_enter Try.func8, Try.ntmps8
      go_wp2
      go_ret
      exact ⟨_, rfl, rfl⟩
  · go_enter Try.func8, Try.ntmps8
    go_wp2
    go_ret
    exact ⟨_, rfl, rfl⟩
end Go.Proofs.Qxb6630014a
