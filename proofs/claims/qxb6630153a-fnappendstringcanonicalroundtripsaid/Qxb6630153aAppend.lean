/-
  Seat b6630153a: AppendString (7), walked once for both laws.
-/
import Derived.Test.Qxb6630153aLaws
namespace Go.Proofs.Qxb6630153a
open Go.RowKit

theorem hex_nat : ∀ (m : Nat) (h : m < (⟨#[48, 49, 50, 51, 52, 53, 54, 55, 56, 57, 97, 98, 99, 100, 101, 102]⟩ : ByteArray).size), (((⟨#[48, 49, 50, 51, 52, 53, 54, 55, 56, 57, 97, 98, 99, 100, 101, 102]⟩ : ByteArray)[m]'h).toNat : Int) = hexd (m : Int)
  | 0, _ | 1, _ | 2, _ | 3, _ | 4, _ | 5, _ | 6, _ | 7, _ | 8, _ | 9, _ | 10, _ | 11, _ | 12, _ | 13, _ | 14, _ | 15, _ => rfl
  | n + 16, h => absurd h (by show ¬ n + 16 < 16; omega)
theorem hex_at {n : Int} (h0 : 0 ≤ n) : ∀ (h : n.toNat < (⟨#[48, 49, 50, 51, 52, 53, 54, 55, 56, 57, 97, 98, 99, 100, 101, 102]⟩ : ByteArray).size), (((⟨#[48, 49, 50, 51, 52, 53, 54, 55, 56, 57, 97, 98, 99, 100, 101, 102]⟩ : ByteArray)[n.toNat]'h).toNat : Int) = hexd n := fun h => by
  rw [hex_nat n.toNat h, Int.toNat_of_nonneg h0]

theorem and15 {c : Int} (h0 : 0 ≤ c) (h1 : c ≤ 255) : bits .and .u8 c 15 = c % 16 := by
  rw [u8_and c 15 h0 (by omega) (by omega) (by omega)]
  have e : (15 : Int).toNat = 2 ^ 4 - 1 := rfl
  rw [e, Nat.and_two_pow_sub_one_eq_mod]
  omega
theorem grown_drew {w w' : World} {row : Option Nat} (h : w.drew.grownBy w' row) : w.grownBy w' row := ⟨h.os, h.tape, h.output, h.size, h.block⟩
theorem esc_end {w wr w2 w3 : World} {base : Nat} {b v2 : Value} {ys ys2 : List Int} (hown : Ob wr base b ys) (hbel : Below base w wr) (hbw : base ≤ wr.heap.size) (hg2 : wr.grownBy w2 b.ownBlock) (hown2 : Ob w2 base v2 ys2) (hg3 : w2.grownBy w3 v2.ownBlock) :
    Below base w w3 ∧ base ≤ w3.heap.size := by
  have h2 := hown.below hbel hbw hg2
  have h3 : base ≤ w2.heap.size := Nat.le_trans hbw hg2.size
  exact ⟨hown2.below h2 h3 hg3, Nat.le_trans h3 hg3.size⟩

set_option maxRecDepth 100000 in
set_option maxHeartbeats 2000000 in
theorem append_own (base : Nat) (v : Value) (zs : List Int) (s : ByteArray) (w : World) (hbase : base ≤ w.heap.size) (hown : Ob w base v zs) (hz : zs.length ≤ 1048576) (hs : s.size ≤ 1048576) :
    Calls Try.prog 7 #[v, .string s] w fun e w' => ∃ v', e = .returned v' ∧ Ob w' base v' (zs ++ encS (sl s)) ∧ Below base w w' := by
  have hbs := get_bt s
  have hsl : Hid ((sl s).length = s.size) := sl_length s
  go_enter Try.func7, Try.ntmps7
  go_wp2_with (at_builtin; refine app_new _ rfl (.tmp 8) (.tmp 9) rfl base v zs [34] rfl hown rfl hbase (by simp; omega) ?_; intro v1 w1 hown1 hg1)
  have hb1 : Below base w w1 := hown.below (Below.refl _ _) hbase hg1
  have hz1 : w.heap.size ≤ w1.heap.size := hg1.size
  clear hg1 hown
  go_loopw [0, 5, 6] (fun b st i wr => ∃ (k j : Nat) (ys : List Int), k ≤ s.size ∧ j ≤ k ∧ i = .int .i64 k ∧ st = .int .i64 j ∧ Ob wr base b ys ∧ Hid (ys ++ ((sl s).take k).drop j = zs ++ 34 :: encL ((sl s).take k)) ∧ Below base w wr ∧ base ≤ wr.heap.size) (fun _ _ i _ => s.size - (intOf i).toNat)
  case atStart => exact ⟨0, 0, _, Nat.zero_le _, Nat.le_refl _, rfl, rfl, hown1, (by simp [encL] : (zs ++ [34]) ++ ((sl s).take 0).drop 0 = zs ++ 34 :: encL ((sl s).take 0)), hb1, by omega⟩
  case round =>
    obtain ⟨k, j, ys, hk, hjk, rfl, rfl, hown, hinv, hbel, hbw⟩ := hrel
    have hyl := ys_len hinv.out
    have hyl2 : ys.length + (k - j) ≤ zs.length + 1 + 6 * k := by
      have e : ((List.take k (sl s)).drop j).length = k - j := by rw [List.length_drop, List.length_take, hsl.out]; omega
      omega
    clear hyl
    have hbd := bt_bd s k
    obtain ⟨hc0, hc1⟩ := hbd
    by_cases hlt : k < s.size
    · have hkl : k < (sl s).length := by rw [hsl.out]; exact hlt
      by_cases hpl : 32 ≤ bt s k ∧ bt s k ≠ 34 ∧ bt s k ≠ 92
      · obtain ⟨hp1, hp2, hp3⟩ := hpl
        have hst : Hid _ := step_plain hkl hjk hinv.out (enc_plain hp1 hp2 hp3)
        have t1 : (bt s k != 34) = true := by rw [bne_iff_ne]; exact hp2
        have t2 : (bt s k != 92) = true := by rw [bne_iff_ne]; exact hp3
        clear hkl hp2 hp3
        go_wp2_with fail
        go_roundw
        case rel => exact ⟨k + 1, j, ys, by omega, by omega, by go_num, rfl, hown, hst.out, hbel, hbw⟩
        case measure => simp [intOf]; omega
      · rcases (show bt s k = 34 ∨ bt s k = 92 ∨ bt s k = 10 ∨ bt s k = 13 ∨ bt s k = 9 ∨ (bt s k < 32 ∧ bt s k ≠ 10 ∧ bt s k ≠ 13 ∧ bt s k ≠ 9) by omega) with hc | hc | hc | hc | hc | hc
        · have hst : Hid _ := step_esc hkl hinv.out (enc_two (.inl hc))
          rw [show (sl s).getD k 0 = 34 from hc] at hst
          clear hkl hpl hc0 hc1
          go_wp2_with (first
            | (at_builtin; refine app_str _ rfl (.tmp 30) (.tmp 34) rfl base _ ys _ rfl hown rfl hbw (by simp; omega) ?_; intro v2 w2 hown2 hg2)
            | (at_builtin; refine app_new _ rfl (.tmp 49) (.tmp 51) rfl base _ _ [92, 34] rfl hown2 rfl (Nat.le_trans hbw hg2.size) (by simp [sl_length]; omega) ?_; intro v3 w3 hown3 hg3))
          have hfin := esc_end hown hbel hbw hg2 hown2 hg3
          go_roundw
          case rel => exact ⟨k + 1, k + 1, _, by omega, Nat.le_refl _, by go_num, by go_num, hown3, by unfold Hid; rw [sl_extract]; exact hst.out, hfin.1, hfin.2⟩
          case measure => simp [intOf]; omega
        · have hst : Hid _ := step_esc hkl hinv.out (enc_two (.inr hc))
          rw [show (sl s).getD k 0 = 92 from hc] at hst
          clear hkl hpl hc0 hc1
          go_wp2_with (first
            | (at_builtin; refine app_str _ rfl (.tmp 30) (.tmp 34) rfl base _ ys _ rfl hown rfl hbw (by simp; omega) ?_; intro v2 w2 hown2 hg2)
            | (at_builtin; refine app_new _ rfl (.tmp 49) (.tmp 51) rfl base _ _ [92, 92] rfl hown2 rfl (Nat.le_trans hbw hg2.size) (by simp [sl_length]; omega) ?_; intro v3 w3 hown3 hg3))
          have hfin := esc_end hown hbel hbw hg2 hown2 hg3
          go_roundw
          case rel => exact ⟨k + 1, k + 1, _, by omega, Nat.le_refl _, by go_num, by go_num, hown3, by unfold Hid; rw [sl_extract]; exact hst.out, hfin.1, hfin.2⟩
          case measure => simp [intOf]; omega
        · have hst : Hid _ := step_esc hkl hinv.out (show enc1 ((sl s).getD k 0) = [92, 110] by rw [show (sl s).getD k 0 = 10 from hc]; decide)
          clear hkl hpl hc0 hc1
          go_wp2_with (first
            | (at_builtin; refine app_str _ rfl (.tmp 30) (.tmp 34) rfl base _ ys _ rfl hown rfl hbw (by simp; omega) ?_; intro v2 w2 hown2 hg2)
            | (at_builtin; refine app_new _ rfl (.tmp 55) (.tmp 56) rfl base _ _ [92, 110] rfl hown2 rfl (Nat.le_trans hbw hg2.size) (by simp [sl_length]; omega) ?_; intro v3 w3 hown3 hg3))
          have hfin := esc_end hown hbel hbw hg2 hown2 hg3
          go_roundw
          case rel => exact ⟨k + 1, k + 1, _, by omega, Nat.le_refl _, by go_num, by go_num, hown3, by unfold Hid; rw [sl_extract]; exact hst.out, hfin.1, hfin.2⟩
          case measure => simp [intOf]; omega
        · have hst : Hid _ := step_esc hkl hinv.out (show enc1 ((sl s).getD k 0) = [92, 114] by rw [show (sl s).getD k 0 = 13 from hc]; decide)
          clear hkl hpl hc0 hc1
          go_wp2_with (first
            | (at_builtin; refine app_str _ rfl (.tmp 30) (.tmp 34) rfl base _ ys _ rfl hown rfl hbw (by simp; omega) ?_; intro v2 w2 hown2 hg2)
            | (at_builtin; refine app_new _ rfl (.tmp 60) (.tmp 61) rfl base _ _ [92, 114] rfl hown2 rfl (Nat.le_trans hbw hg2.size) (by simp [sl_length]; omega) ?_; intro v3 w3 hown3 hg3))
          have hfin := esc_end hown hbel hbw hg2 hown2 hg3
          go_roundw
          case rel => exact ⟨k + 1, k + 1, _, by omega, Nat.le_refl _, by go_num, by go_num, hown3, by unfold Hid; rw [sl_extract]; exact hst.out, hfin.1, hfin.2⟩
          case measure => simp [intOf]; omega
        · have hst : Hid _ := step_esc hkl hinv.out (show enc1 ((sl s).getD k 0) = [92, 116] by rw [show (sl s).getD k 0 = 9 from hc]; decide)
          clear hkl hpl hc0 hc1
          go_wp2_with (first
            | (at_builtin; refine app_str _ rfl (.tmp 30) (.tmp 34) rfl base _ ys _ rfl hown rfl hbw (by simp; omega) ?_; intro v2 w2 hown2 hg2)
            | (at_builtin; refine app_new _ rfl (.tmp 65) (.tmp 66) rfl base _ _ [92, 116] rfl hown2 rfl (Nat.le_trans hbw hg2.size) (by simp [sl_length]; omega) ?_; intro v3 w3 hown3 hg3))
          have hfin := esc_end hown hbel hbw hg2 hown2 hg3
          go_roundw
          case rel => exact ⟨k + 1, k + 1, _, by omega, Nat.le_refl _, by go_num, by go_num, hown3, by unfold Hid; rw [sl_extract]; exact hst.out, hfin.1, hfin.2⟩
          case measure => simp [intOf]; omega
        · obtain ⟨hq, q1, q2, q3⟩ := hc
          have hst : Hid _ := step_esc hkl hinv.out (enc_ctl hq q1 q2 q3)
          have t0 : (bt s k == 34) = false := beq_eq_false_iff_ne.2 (by omega)
          have t00 : (bt s k == 92) = false := beq_eq_false_iff_ne.2 (by omega)
          have t1 : (bt s k == 10) = false := beq_eq_false_iff_ne.2 q1
          have t2 : (bt s k == 13) = false := beq_eq_false_iff_ne.2 q2
          have t3 : (bt s k == 9) = false := beq_eq_false_iff_ne.2 q3
          clear hkl hpl q1 q2 q3
          have hand := and15 hc0 hc1
          have d1 : 0 ≤ bt s k / 16 := by omega
          have d2 : bt s k / 16 < 16 := by omega
          have d3 : 0 ≤ bt s k % 16 := by omega
          have d4 : bt s k % 16 < 16 := by omega
          have hx1 := hex_at d1
          have hx2 := hex_at d3
          go_wp2_with (at_builtin; refine app_str _ rfl (.tmp 30) (.tmp 34) rfl base _ ys _ rfl hown rfl hbw (by simp; omega) ?_; intro v2 w2 hown2 hg2)
          go_region_law (refine step_new w2.drew rfl (.tmp 37) (.tmp 44) rfl base v2 _ [92, 117, 48, 48, hexd (bt s k / 16), hexd (bt s k % 16)] rfl hown2 rfl (Nat.le_trans hbw hg2.size) (by simp [sl_length]; omega) _ rfl ?_; intro v3 w3 hown3 hg3)
          all_goals
            go_wp2_with fail
            have hfin := esc_end hown hbel hbw hg2 hown2 (grown_drew hg3)
            go_roundw
            case rel => exact ⟨k + 1, k + 1, _, by omega, Nat.le_refl _, by go_num, by go_num, hown3, by unfold Hid; rw [sl_extract]; exact hst.out, hfin.1, hfin.2⟩
            case measure => simp [intOf]; omega
    · go_wp2_with (first
        | (at_builtin; refine app_str _ rfl (.tmp 70) (.tmp 73) rfl base _ ys _ rfl hown rfl hbw (by simp; omega) ?_; intro v2 w2 hown2 hg2)
        | (at_builtin; refine app_new _ rfl (.tmp 75) (.tmp 76) rfl base _ _ [34] rfl hown2 rfl (Nat.le_trans hbw hg2.size) (by simp [sl_length]; omega) ?_; intro v3 w3 hown3 hg3))
      have hfin := esc_end hown hbel hbw hg2 hown2 hg3
      go_ret
      refine ⟨v3, rfl, ?_, hfin.1⟩
      have e := fin_enc (Nat.le_of_eq hsl.out) (by have h := hinv.out; rwa [show k = s.size by omega] at h)
      rw [← e, ← sl_extract_end]
      exact hown3
end Go.Proofs.Qxb6630153a
