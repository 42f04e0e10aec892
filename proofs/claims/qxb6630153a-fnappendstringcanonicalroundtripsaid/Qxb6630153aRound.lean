/-
  Seat b6630153a: the law FnAppendStringCanonicalRoundTrip (3), walked.
-/
import Derived.Test.Qxb6630153aShapes
namespace Go.Proofs.Qxb6630153a
open Go.RowKit

set_option maxRecDepth 100000 in
set_option maxHeartbeats 1000000 in
theorem round_any (a0 : Option Addr) (n cap : Nat) (xs : List Int) (s : ByteArray) (w : World) (hn : n ≤ maxLen) (hs : s.size ≤ maxLen) (hb : Bv w a0 n xs) (hnone : a0 = none → n = 0 ∧ cap = 0) (hlt : n = 0 ∨ ∀ x, a0 = some x → x.block < w.heap.size) :
    Calls Try.prog 3 #[.slice a0 n cap, .string s] w fun e w' => e = .returned (.bool true) ∧ Below w.heap.size w w' := by
  have Hnone : Hid _ := hnone
  have Hlt : Hid _ := hlt
  clear hnone hlt
  go_enter Try.func3, Try.ntmps3
  go_wp2_with fail
  refine (zzA_any a0 n cap s _ hn hs).mono ?_
  rintro e w' ⟨b, rfl, rfl⟩
  cases b
  · go_wp2_with fail
    go_ret
    exact ⟨rfl, Below.refl _ _⟩
  by_cases h0 : n ≤ 1048576
  case neg =>
    go_wp2_with fail
    go_ret
    exact ⟨rfl, Below.refl _ _⟩
  by_cases h1 : s.size ≤ 1048576
  case neg =>
    go_wp2_with fail
    go_ret
    exact ⟨rfl, Below.refl _ _⟩
  by_cases h2 : n + s.size ≤ 1048576
  case neg =>
    go_wp2_with fail
    go_ret
    exact ⟨rfl, Below.refl _ _⟩
  go_wp2_with fail
  refine (clone_all a0 n cap xs _ h0 hb Hnone.out Hlt.out).mono ?_
  rintro e w1 ⟨v, rfl, ho, hb1⟩
  go_wp2_with fail
  refine (append_shape w.heap.size v xs s w1 hb1.size ho (by rw [hb.1]; exact h0) h1).mono ?_
  rintro e w2 ⟨g, N, cp, rfl, hN, hcp, hg1, hg2, hcell, hb2⟩
  have hbw : Below w.heap.size w w2 := hb1.trans hb2
  have hel := encS_len (sl s)
  have hNe : Hid (n + (encS (sl s)).length = N) := by have h := hN.out; rw [List.length_append, hb.1] at h; exact h
  have hN2 : n + 2 ≤ N := by have := hNe.out; omega
  have hN3 : N ≤ 8388608 := by have h3 := hNe.out; have h4 := sl_length s; omega
  have hbv : Bv w2 a0 n xs := hb.below hbw (Hlt.out)
  have hbo : Bv w2 (some ⟨g, 0, none⟩) n xs := ⟨hb.1, .inr ⟨g, 0, rfl, fun j hj => by
    rw [Nat.zero_add, hcell.out j (by omega), getD_left (by rw [hb.1]; exact hj)]⟩⟩
  have hdc : Hid (∀ j, j < N - n → w2.cell? ⟨g, n + j, none⟩ = some (.int .u8 ((encS (sl s)).getD j 0))) := fun j hj => by
    have e := getD_right (A := xs) (B := encS (sl s)) j
    rw [hb.1] at e
    rw [hcell.out (n + j) (by omega), e]
  clear hel ho hb1 hb2
  go_wp2_with fail
  refine (equal_true _ a0 n _ cap xs w2 (by omega) hbo hbv).mono ?_
  rintro e w3 ⟨rfl, m, rfl⟩
  go_wp2_with fail
  refine (decode_shape g n (N - n) _ (sl s) s.size (w2.drewN m) (sl_bd s) (sl_length s) h1 (by have := hNe.out; omega) hdc.out hg2).mono ?_
  rintro e w4 ⟨aa, ca, rfl, hbd, hb4⟩
  go_wp2_with fail
  refine (equalStr_true aa ca s w4 (by omega) hbd).mono ?_
  rintro e w5 ⟨rfl, m2, rfl⟩
  go_wp2_with fail
  go_ret
  exact ⟨rfl, below_drewN' ((below_drewN' hbw m).trans (hb4.mono hbw.size)) m2⟩
end Go.Proofs.Qxb6630153a
