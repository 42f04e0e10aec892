/-
  Seat b6630153a: jdb1Equal (8), jdb1EqualStr (10), jdb1Framed (12), jdb1EscLen (13), jdb1Hex (14), jdb1Clone (6), walked.
-/
import Derived.Test.Qxb6630153aLaws
import Derived.Deep.QuietTactic
import Derived.BigQuiet
namespace Go.Proofs.Qxb6630153a
open Go.RowKit

/-- A slice of bytes that reads as xs. -/
def Bv (w : World) (ao : Option Addr) (n : Nat) (xs : List Int) : Prop :=
  xs.length = n ∧ (n = 0 ∨ ∃ g o, ao = some ⟨g, o, none⟩ ∧ ∀ j, j < n → w.cell? ⟨g, o + j, none⟩ = some (.int .u8 (xs.getD j 0)))

theorem drewN_more {w wr : World} (h : ∃ n, wr = w.drewN n) (m : Nat) : ∃ n, wr.drewN m = w.drewN n := by
  obtain ⟨n, rfl⟩ := h
  exact ⟨n + m, by rw [World.drewN_drewN]⟩
theorem cell_drewN {w wr : World} (h : ∃ n, wr = w.drewN n) (a : Addr) : wr.cell? a = w.cell? a := by
  obtain ⟨n, rfl⟩ := h
  rfl

set_option maxHeartbeats 400000 in
theorem equal_true (aa ab : Option Addr) (n ca cb : Nat) (xs : List Int) (w : World) (hn : n ≤ 1073741824) (ha : Bv w aa n xs) (hb : Bv w ab n xs) :
    Calls Try.prog 8 #[.slice aa n ca, .slice ab n cb] w fun e w' => e = .returned (.bool true) ∧ ∃ m, w' = w.drewN m := by
  by_cases h0 : n = 0
  · subst h0
    go_enter Try.func8, Try.ntmps8
    go_wp2
    refine wp_loop_rounds 1 ?_
    rw [rounds_succ]
    go_wp2
    go_ret
    exact ⟨rfl, 0, rfl⟩
  · obtain ⟨ga, oa, rfl, hca⟩ := ha.2.resolve_left h0
    obtain ⟨gb, ob, rfl, hcb⟩ := hb.2.resolve_left h0
    have Hca : Hid _ := hca
    have Hcb : Hid _ := hcb
    clear hca hcb
    go_enter Try.func8, Try.ntmps8
    go_wp2
    go_loopw [5] (fun i wr => ∃ k : Nat, k ≤ n ∧ i = .int .i64 k ∧ Hid (∃ m, wr = w.drewN m)) (fun i _ => n - (intOf i).toNat)
    case atStart => exact ⟨0, Nat.zero_le _, rfl, ⟨0, rfl⟩⟩
    case round =>
      obtain ⟨k, hk, rfl, hw⟩ := hrel
      by_cases hlt : k < n
      · have h1 : wr.cell? ⟨ga, oa + k, none⟩ = some (.int .u8 (xs.getD k 0)) := (cell_drewN hw.out _).trans (Hca.out k hlt)
        have h2 : wr.cell? ⟨gb, ob + k, none⟩ = some (.int .u8 (xs.getD k 0)) := (cell_drewN hw.out _).trans (Hcb.out k hlt)
        generalize xs.getD k 0 = x at h1 h2
        go_wp2
        go_quiet (fail)
        go_wp2
        go_roundw
        case rel => exact ⟨k + 1, by omega, by go_num, drewN_more hw.out _⟩
        case measure => simp [intOf]; omega
      · go_wp2
        go_ret
        exact ⟨rfl, hw.out⟩

set_option maxHeartbeats 400000 in
theorem equalStr_true (aa : Option Addr) (ca : Nat) (s : ByteArray) (w : World) (hn : s.size ≤ 1073741824) (ha : Bv w aa s.size (sl s)) :
    Calls Try.prog 10 #[.slice aa s.size ca, .string s] w fun e w' => e = .returned (.bool true) ∧ ∃ m, w' = w.drewN m := by
  by_cases h0 : s.size = 0
  · have e : (s.size : Int) = 0 := by omega
    go_enter Try.func10, Try.ntmps10
    go_wp2
    refine wp_loop_rounds 1 ?_
    rw [rounds_succ]
    go_wp2
    go_ret
    exact ⟨rfl, 0, rfl⟩
  · obtain ⟨ga, oa, rfl, hca⟩ := ha.2.resolve_left h0
    have Hca : Hid _ := hca
    clear hca
    have hbs := get_bt s
    go_enter Try.func10, Try.ntmps10
    go_wp2
    go_loopw [5] (fun i wr => ∃ k : Nat, k ≤ s.size ∧ i = .int .i64 k ∧ Hid (∃ m, wr = w.drewN m)) (fun i _ => s.size - (intOf i).toNat)
    case atStart => exact ⟨0, Nat.zero_le _, rfl, ⟨0, rfl⟩⟩
    case round =>
      obtain ⟨k, hk, rfl, hw⟩ := hrel
      by_cases hlt : k < s.size
      · have h1 : wr.cell? ⟨ga, oa + k, none⟩ = some (.int .u8 (bt s k)) := (cell_drewN hw.out _).trans (Hca.out k hlt)
        go_wp2
        go_quiet (fail)
        go_wp2
        go_roundw
        case rel => exact ⟨k + 1, by omega, by go_num, drewN_more hw.out _⟩
        case measure => simp [intOf]; omega
      · go_wp2
        go_ret
        exact ⟨rfl, hw.out⟩

set_option maxHeartbeats 400000 in
theorem framed_true (g o n cap : Nat) (w : World) (hn : 2 ≤ n) (hn' : n ≤ 1073741824) (h0 : w.cell? ⟨g, o, none⟩ = some (.int .u8 34)) (h1 : w.cell? ⟨g, o + (n - 1), none⟩ = some (.int .u8 34)) :
    Calls Try.prog 12 #[.slice (some ⟨g, o, none⟩) n cap] w fun e w' => e = .returned (.bool true) ∧ w = w' := by
  go_enter Try.func12, Try.ntmps12
  go_wp2
  go_ret
  exact ⟨rfl, rfl⟩

set_option maxHeartbeats 400000 in
theorem hex_any (n : Int) (w : World) (h0 : 0 ≤ n) (h1 : n < 16) :
    Calls Try.prog 14 #[.int .u8 (hexd n)] w fun e w' => e = .returned (.tuple #[.int .u8 n, .bool true]) ∧ w' = w := by
  by_cases h : n < 10
  · have e : hexd n = 48 + n := by unfold hexd; rw [if_pos h]
    rw [e]
    clear e
    go_enter Try.func14, Try.ntmps14
    go_wp2
    go_ret2
    exact ⟨by go_num, rfl⟩
  · have e : hexd n = 87 + n := by unfold hexd; rw [if_neg h]
    rw [e]
    clear e
    go_enter Try.func14, Try.ntmps14
    go_wp2
    go_ret2
    exact ⟨by go_num, rfl⟩
end Go.Proofs.Qxb6630153a
