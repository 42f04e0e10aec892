/-
  Seat b6630153a: the law FnAppendStringSplitsAtAnyCut (4), walked.
-/
import Derived.Test.Qxb6630153aShapes
namespace Go.Proofs.Qxb6630153a
open Go.RowKit

/-- A row of its own that holds the JSON string of t: what AppendString(nil, t) leaves. -/
structure Enc (w : World) (g N cp : Nat) (L : List Int) : Prop where
  len : (encL L).length + 2 = N
  cap : N ≤ cp
  lt : g < w.heap.size
  cells : ∀ j, j < N → w.cell? ⟨g, j, none⟩ = some (.int .u8 ((encS L).getD j 0))

theorem encS_length (L : List Int) : (encS L).length = (encL L).length + 2 := by simp [encS]

theorem append_nil (s : ByteArray) (w : World) (hs : s.size ≤ 1048576) :
    Calls Try.prog 7 #[.slice none 0 0, .string s] w fun e w' => ∃ g N cp, e = .returned (.slice (some ⟨g, 0, none⟩) N cp) ∧ Enc w' g N cp (sl s) ∧ Below w.heap.size w w' := by
  refine (append_shape w.heap.size _ [] s w (Nat.le_refl _) (Ob.nil _ _) (by simp) hs).mono ?_
  rintro e w' ⟨g, N, cp, rfl, hN, hcp, hg1, hg2, hcell, hb⟩
  exact ⟨g, N, cp, rfl, ⟨by rw [← encS_length]; exact hN.out, hcp, hg2, hcell.out⟩, hb⟩

theorem Enc.below {w w' : World} {g N cp : Nat} {L : List Int} (h : Enc w g N cp L) {B : Nat} (hb : Below B w w') (hB : g < B) : Enc w' g N cp L :=
  ⟨h.len, h.cap, Nat.lt_of_lt_of_le h.lt hb.size, fun j hj => (hb.cell (p := ⟨g, j, none⟩) hB).trans (h.cells j hj)⟩

theorem Enc.first {w : World} {g N cp : Nat} {L : List Int} (h : Enc w g N cp L) : w.cell? ⟨g, 0, none⟩ = some (.int .u8 34) := h.cells 0 (by have := h.len; omega)
theorem Enc.last {w : World} {g N cp : Nat} {L : List Int} (h : Enc w g N cp L) : w.cell? ⟨g, 0 + (N - 1), none⟩ = some (.int .u8 34) := by
  have hl := h.len
  rw [Nat.zero_add, h.cells (N - 1) (by omega)]
  have e : encS L = (34 :: encL L) ++ ([34] ++ []) := by simp [encS]
  have : N - 1 = (34 :: encL L).length + 0 := by rw [List.length_cons]; omega
  rw [e, this, getD_mid _ _ _ _ (by simp)]
  rfl
/-- The inside. -/
theorem Enc.inside {w : World} {g N cp : Nat} {L : List Int} (h : Enc w g N cp L) (j : Nat) (hj : j < (encL L).length) : w.cell? ⟨g, 1 + j, none⟩ = some (.int .u8 ((encL L).getD j 0)) := by
  have hl := h.len
  rw [h.cells (1 + j) (by omega)]
  have e : encS L = [34] ++ (encL L ++ [34]) := by simp [encS]
  rw [e, show 1 + j = ([34] : List Int).length + j from rfl, getD_mid [34] _ _ _ hj]

theorem equal2 (aa ab : Option Addr) (la lb ca cb : Nat) (xs : List Int) (w : World) (hl : la = lb) (hn : lb ≤ 1073741824) (ha : Bv w aa lb xs) (hb : Bv w ab lb xs) :
    Calls Try.prog 8 #[.slice aa la ca, .slice ab lb cb] w fun e w' => e = .returned (.bool true) ∧ ∃ m, w' = w.drewN m := by
  subst hl
  exact equal_true aa ab la ca cb xs w hn ha hb

set_option maxRecDepth 100000 in
set_option maxHeartbeats 1000000 in
theorem split_any (a0 : Option Addr) (n cap : Nat) (xs : List Int) (s : ByteArray) (k : Int) (w : World) (hn : n ≤ maxLen) (hs : s.size ≤ maxLen) (hb : Bv w a0 n xs) (hnone : a0 = none → n = 0 ∧ cap = 0) (hlt : n = 0 ∨ ∀ x, a0 = some x → x.block < w.heap.size) :
    Calls Try.prog 4 #[.slice a0 n cap, .string s, .int .i64 k] w fun e w' => e = .returned (.bool true) ∧ Below w.heap.size w w' := by
  have Hnone : Hid _ := hnone
  have Hlt : Hid _ := hlt
  clear hnone hlt
  by_cases hk : 0 ≤ k ∧ k ≤ s.size
  case neg =>
    go_enter Try.func4, Try.ntmps4
    go_wp2_with fail
    refine (zzB_any a0 n cap s k _ hn hs).mono ?_
    rintro e w' ⟨b, rfl, rfl⟩
    cases b
    · go_wp2_with fail
      go_ret
      exact ⟨rfl, Below.refl _ _⟩
    unfold maxLen at hn hs
    by_cases h0 : n ≤ 1048576
    case neg =>
      go_wp2_with fail
      go_ret
      exact ⟨rfl, Below.refl _ _⟩
    by_cases h1 : s.size ≤ 1048576
    case neg =>
      go_wp2_with fail
      go_ret
      exact ⟨rfl, Below.refl _ _⟩
    by_cases h2 : n + s.size ≤ 1048576
    case neg =>
      go_wp2_with fail
      go_ret
      exact ⟨rfl, Below.refl _ _⟩
    rcases (show k < 0 ∨ (0 ≤ k ∧ (s.size : Int) < k) by omega) with h3 | ⟨h3, h4⟩
    · clear hk
      go_wp2_with fail
      go_ret
      exact ⟨rfl, Below.refl _ _⟩
    · clear hk
      go_wp2_with fail
      go_ret
      exact ⟨rfl, Below.refl _ _⟩
  obtain ⟨hk0, hk1⟩ := hk
  obtain ⟨q, rfl⟩ := Int.eq_ofNat_of_zero_le hk0
  have hq : q ≤ s.size := by omega
  clear hk0 hk1
  go_enter Try.func4, Try.ntmps4
  go_wp2_with fail
  refine (zzB_any a0 n cap s _ _ hn hs).mono ?_
  rintro e w' ⟨b, rfl, rfl⟩
  cases b
  · go_wp2_with fail
    go_ret
    exact ⟨rfl, Below.refl _ _⟩
  unfold maxLen at hn hs
  by_cases h0 : n ≤ 1048576
  case neg =>
    go_wp2_with fail
    go_ret
    exact ⟨rfl, Below.refl _ _⟩
  by_cases h1 : s.size ≤ 1048576
  case neg =>
    go_wp2_with fail
    go_ret
    exact ⟨rfl, Below.refl _ _⟩
  by_cases h2 : n + s.size ≤ 1048576
  case neg =>
    go_wp2_with fail
    go_ret
    exact ⟨rfl, Below.refl _ _⟩
  go_wp2_with fail
  refine (clone_all a0 n cap xs _ h0 hb Hnone.out Hlt.out).mono ?_
  rintro e w1 ⟨v, rfl, ho, hb1⟩
  go_wp2_with fail
  refine (append_shape w.heap.size v xs s w1 hb1.size ho (by rw [hb.1]; exact h0) h1).mono ?_
  rintro e w2 ⟨gO, NO, cO, rfl, hN, hcO, hgO1, hgO, hcell, hb2⟩
  have hbw : Below w.heap.size w w2 := hb1.trans hb2
  have Hb : Hid _ := hb
  clear ho hb1 hb2 hb
  go_wp2_with fail
  refine (append_nil s w2 h1).mono ?_
  rintro e w3 ⟨gW, NW, cW, rfl, hW, hb3⟩
  go_wp2_with fail
  refine (append_nil (s.extract 0 q) w3 (by simp; omega)).mono ?_
  rintro e w4 ⟨gL, NL, cL, rfl, hLe, hb4⟩
  go_wp2_with fail
  refine (append_nil (s.extract q s.size) w4 (by simp; omega)).mono ?_
  rintro e w5 ⟨gR, NR, cR, rfl, hR, hb5⟩
  have z2 := hb3.size
  have z3 := hb4.size
  have z4 := hb5.size
  have hbw5 : Below w.heap.size w w5 := ((hbw.trans (hb3.mono hbw.size)).trans (hb4.mono (Nat.le_trans hbw.size z2))).trans (hb5.mono (Nat.le_trans hbw.size (Nat.le_trans z2 z3)))
  have hW5 : Enc w5 gW NW cW (sl s) := (hW.below hb4 hW.lt).below hb5 (Nat.lt_of_lt_of_le hW.lt z3)
  have hL5 : Enc w5 gL NL cL ((sl s).take q) := by
    have h := hLe.below hb5 hLe.lt
    rwa [sl_extract, List.drop_zero] at h
  have hR5 : Enc w5 gR NR cR ((sl s).drop q) := by
    have h := hR
    rwa [sl_extract_end] at h
  have hO5 : Hid (∀ j, j < NO → w5.cell? ⟨gO, j, none⟩ = some (.int .u8 ((xs ++ encS (sl s)).getD j 0))) := fun j hj =>
    (hb5.cell (p := ⟨gO, j, none⟩) (Nat.lt_of_lt_of_le hgO (Nat.le_trans z2 z3))).trans ((hb4.cell (p := ⟨gO, j, none⟩) (Nat.lt_of_lt_of_le hgO z2)).trans ((hb3.cell (p := ⟨gO, j, none⟩) hgO).trans (hcell.out j hj)))
  have eSp : Hid (encL (sl s) = encL ((sl s).take q) ++ encL ((sl s).drop q)) := by
    unfold Hid
    rw [← encL_append, List.take_append_drop]
  have lW := hW5.len
  have lL := hL5.len
  have lR := hR5.len
  have cW2 := hW5.cap
  have cL2 := hL5.cap
  have cR2 := hR5.cap
  have lS := congrArg List.length eSp.out
  have lO := hN.out
  have lE := encL_len (sl s)
  rw [List.length_append] at lS
  rw [List.length_append, Hb.out.1, encS_length] at lO
  rw [sl_length] at lE
  have m1 : NW ≤ 2 + (encL (sl s)).length := by omega
  have m2 : 2 + (encL (sl s)).length ≤ NW := by omega
  have m3 : n + NW ≤ NO := by omega
  have m4 : NO ≤ n + NW := by omega
  have m5 : NW + 2 ≤ NL + NR := by omega
  have m6 : NL + NR ≤ NW + 2 := by omega
  have m7 : 2 ≤ NL := by omega
  have m8 : 2 ≤ NR := by omega
  have m9 : NW ≤ 8388608 := by omega
  have HlW : Hid _ := lW
  have HlL : Hid _ := lL
  have HlR : Hid _ := lR
  clear hW hLe hR hcell hb3 hb4 hb5 lW lL lR lS lO lE
  go_wp2_with fail
  refine (framed_true gW 0 NW cW w5 (by omega) (by omega) hW5.first hW5.last).mono ?_
  rintro e w' ⟨rfl, rfl⟩
  go_wp2_with fail
  refine (framed_true gL 0 NL cL w5 (by omega) (by omega) hL5.first hL5.last).mono ?_
  rintro e w' ⟨rfl, rfl⟩
  go_wp2_with fail
  refine (framed_true gR 0 NR cR w5 (by omega) (by omega) hR5.first hR5.last).mono ?_
  rintro e w' ⟨rfl, rfl⟩
  go_wp2_with fail
  refine (escLen_any s w5 h1).mono ?_
  rintro e w' ⟨rfl, rfl⟩
  have hbv : Bv w5 a0 n xs := Bv.below Hb.out hbw5 Hlt.out
  have hbo : Bv w5 (some ⟨gO, 0, none⟩) n xs := ⟨Hb.out.1, .inr ⟨gO, 0, rfl, fun j hj => by
    rw [Nat.zero_add, hO5.out j (by omega), getD_left (by rw [Hb.out.1]; exact hj)]⟩⟩
  have hoW : Bv w5 (some ⟨gO, n, none⟩) NW (encS (sl s)) := ⟨by rw [encS_length]; exact HlW.out, .inr ⟨gO, n, rfl, fun j hj => by
    have e := getD_right (A := xs) (B := encS (sl s)) j
    rw [Hb.out.1] at e
    rw [hO5.out (n + j) (by omega), e]⟩⟩
  have hWW : Bv w5 (some ⟨gW, 0, none⟩) NW (encS (sl s)) := ⟨by rw [encS_length]; exact HlW.out, .inr ⟨gW, 0, rfl, fun j hj => by
    rw [Nat.zero_add]; exact hW5.cells j hj⟩⟩
  go_wp2_with fail
  refine (equal2 _ a0 n n _ cap xs w5 rfl (by omega) hbo hbv).mono ?_
  rintro e w6 ⟨rfl, d1, rfl⟩
  go_wp2_with fail
  refine (equal2 _ _ (NO - n) NW _ _ (encS (sl s)) (w5.drewN d1) (by omega) (by omega) hoW hWW).mono ?_
  rintro e w7 ⟨rfl, d2, rfl⟩
  go_wp2_with fail
  have hwl : Bv w5 (some ⟨gW, 1, none⟩) (NL - 1 - 1) (encL ((sl s).take q)) := ⟨by have := HlL.out; omega, .inr ⟨gW, 1, rfl, fun j hj => by
    have h3 := HlL.out
    have h4 := HlW.out
    rw [hW5.inside j (by omega), eSp.out, getD_left (by omega)]⟩⟩
  have hll : Bv w5 (some ⟨gL, 1, none⟩) (NL - 1 - 1) (encL ((sl s).take q)) := ⟨by have := HlL.out; omega, .inr ⟨gL, 1, rfl, fun j hj => hL5.inside j (by have := HlL.out; omega)⟩⟩
  have hwr : Bv w5 (some ⟨gW, 1 + (NL - 1 - 1), none⟩) (NR - 1 - 1) (encL ((sl s).drop q)) := ⟨by have := HlR.out; omega, .inr ⟨gW, _, rfl, fun j hj => by
    have h2 := HlR.out
    have h3 := HlL.out
    have h4 := HlW.out
    have e : NL - 1 - 1 = (encL ((sl s).take q)).length := by omega
    rw [Nat.add_assoc, hW5.inside (NL - 1 - 1 + j) (by omega), eSp.out, e, getD_right]⟩⟩
  have hrr : Bv w5 (some ⟨gR, 1, none⟩) (NR - 1 - 1) (encL ((sl s).drop q)) := ⟨by have := HlR.out; omega, .inr ⟨gR, 1, rfl, fun j hj => hR5.inside j (by have := HlR.out; omega)⟩⟩
  refine (equal2 _ _ (NL - 1 - 1) (NL - 1 - 1) _ _ (encL ((sl s).take q)) (w5.drewN (d1 + d2)) rfl (by omega) hwl hll).mono ?_
  rintro e w8 ⟨rfl, d3, rfl⟩
  go_wp2_with fail
  refine (equal2 _ _ (NW - 1 - 1 - (NL - 1 - 1)) (NR - 1 - 1) _ _ (encL ((sl s).drop q)) (w5.drewN (d1 + d2 + d3)) (by omega) (by omega) hwr hrr).mono ?_
  rintro e w9 ⟨rfl, d4, rfl⟩
  go_wp2_with fail
  go_ret
  exact ⟨rfl, below_drewN' hbw5 _⟩
end Go.Proofs.Qxb6630153a
