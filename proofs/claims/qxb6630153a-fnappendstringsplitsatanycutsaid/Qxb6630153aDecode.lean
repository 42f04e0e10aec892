/-
  Seat b6630153a: jdb1DecodeCanonical (9), walked over an escaped text.
-/
import Derived.Test.Qxb6630153aSpots
import Derived.Test.Qxb6630153aEqual
import Derived.Laws.BitsAllLaws
namespace Go.Proofs.Qxb6630153a
open Go.RowKit

theorem or_zero {d : Int} (h0 : 0 ≤ d) (h1 : d < 16) : bits .or .u8 0 d = d := by
  rw [u8_or 0 d (by omega) (by omega) h0 (by omega)]
  simp
  omega
theorem or_16 {d : Int} (h0 : 0 ≤ d) (h1 : d < 16) : bits .or .u8 16 d = 16 + d := by
  rw [u8_or 16 d (by omega) (by omega) h0 (by omega)]
  have e := Nat.two_pow_add_eq_or_of_lt (i := 4) (b := d.toNat) (by omega) 1
  have e2 : (16 : Int).toNat = 2 ^ 4 * 1 := rfl
  rw [e2, ← e]
  omega

set_option maxRecDepth 100000 in
set_option maxHeartbeats 4000000 in
theorem decode_any (g o n cap : Nat) (L : List Int) (w : World) (hL : ∀ c ∈ L, 0 ≤ c ∧ c ≤ 255) (hlen : L.length ≤ 1048576) (hn : Hid ((encS L).length = n)) (hc : Hid (∀ j, j < n → w.cell? ⟨g, o + j, none⟩ = some (.int .u8 ((encS L).getD j 0)))) (hg : g < w.heap.size) :
    Calls Try.prog 9 #[.slice (some ⟨g, o, none⟩) n cap] w fun e w' => ∃ v', e = .returned (.tuple #[v', .bool true]) ∧ Ob w' w.heap.size v' L ∧ Below w.heap.size w w' := by
  have hn2 := encS_len L
  rw [hn.out] at hn2
  obtain ⟨hn2, hn3⟩ := hn2
  have hq0 : w.cell? ⟨g, o, none⟩ = some (.int .u8 34) := by have h := hc.out 0 (by omega); rwa [Nat.add_zero, encS_head] at h
  go_enter Try.func9, Try.ntmps9
  go_wp2
  go_loopw [4, 5] (fun b i wr => ∃ k p : Nat, k ≤ L.length ∧ p < n ∧ i = .int .i64 p ∧ Hid (p = 1 + (encL (L.take k)).length) ∧ Ob wr w.heap.size b (L.take k) ∧ Below w.heap.size w wr ∧ w.heap.size ≤ wr.heap.size) (fun _ i _ => n - (intOf i).toNat)
  case atStart => exact ⟨0, 1, Nat.zero_le _, by omega, rfl, (rfl : 1 = 1 + (encL (L.take 0)).length), Ob.nil _ _, Below.refl _ _, Nat.le_refl _⟩
  case round =>
    obtain ⟨k, p, hk, hpn, rfl, hp, hown, hbel, hsz⟩ := hrel
    have hcell : Hid (∀ j, j < n → wr.cell? ⟨g, o + j, none⟩ = some (.int .u8 ((encS L).getD j 0))) := fun j hj => (hbel.cell (by exact hg)).trans (hc.out j hj)
    by_cases hlt : k < L.length
    · have hbd := getD_bd hL k
      have htl : (L.take k).length ≤ 1048576 := by rw [List.length_take]; omega
      have htk : Hid (L.take (k + 1) = L.take k ++ [L.getD k 0]) := take_succ_getD hlt
      have hspot : Hid (∀ E, enc1 (L.getD k 0) = E → (∀ t, t < E.length → (encS L).getD (p + t) 0 = E.getD t 0) ∧ p + E.length + 1 ≤ n ∧ p + E.length = 1 + (encL (L.take (k + 1))).length) :=
        fun E hE => ⟨fun t ht => spot hlt hp.out E hE t ht, spot_room hlt hp.out hn.out E hE, spot_next hlt hp.out E hE⟩
      generalize L.getD k 0 = c at hbd htk hspot
      obtain ⟨hc0, hc1⟩ := hbd
      rcases (show (32 ≤ c ∧ c ≠ 34 ∧ c ≠ 92) ∨ (c = 34 ∨ c = 92) ∨ c = 10 ∨ c = 13 ∨ c = 9 ∨ (c < 32 ∧ c ≠ 10 ∧ c ≠ 13 ∧ c ≠ 9) by omega) with ⟨q0, q1, q2⟩ | q | q | q | q | ⟨q0, q1, q2, q3⟩
      · obtain ⟨sp, sr, sn⟩ := hspot.out _ (enc_plain q0 q1 q2)
        have s0 : wr.cell? ⟨g, o + p, none⟩ = some (.int .u8 c) := by have h := hcell.out p hpn; rwa [show (encS L).getD p 0 = c from sp 0 (by simp)] at h
        have sr' : p + 1 + 1 ≤ n := sr
        have Hn : Hid (p + 1 = 1 + (encL (L.take (k + 1))).length) := sn
        have t0 : (c == 34) = false := beq_eq_false_iff_ne.2 q1
        have t1 : (c != 92) = true := by rw [bne_iff_ne]; exact q2
        clear sp sr sn q1 q2
        go_wp2_with (at_builtin; refine app_new _ rfl (.tmp 41) (.tmp 43) rfl w.heap.size _ _ [c] rfl hown rfl hsz (by show (L.take k).length + 1 ≤ 1073741824; omega) ?_; intro v2 w2 hown2 hg2)
        have hb2 := hown.below hbel hsz hg2
        go_roundw
        case rel => exact ⟨k + 1, p + 1, by omega, by omega, by go_num, Hn, by rw [htk.out]; exact hown2, hb2, Nat.le_trans hsz hg2.size⟩
        case measure => simp [intOf]; omega
      · obtain ⟨sp, sr, sn⟩ := hspot.out _ (enc_two q)
        have s0 : wr.cell? ⟨g, o + p, none⟩ = some (.int .u8 92) := by have h := hcell.out p hpn; rwa [show (encS L).getD p 0 = 92 from sp 0 (by simp)] at h
        have sr' : p + 2 + 1 ≤ n := sr
        have s1 : wr.cell? ⟨g, o + (p + 1), none⟩ = some (.int .u8 c) := by have h := hcell.out (p + 1) (by omega); rwa [show (encS L).getD (p + 1) 0 = c from sp 1 (by simp)] at h
        have Hn : Hid (p + 2 = 1 + (encL (L.take (k + 1))).length) := sn
        clear sp sr sn
        rcases q with q | q
        all_goals
          have Hq : Hid _ := q
          rw [q] at s1
          clear q
          go_wp2_with (at_builtin; refine app_new _ rfl (.tmp 63) (.tmp 65) rfl w.heap.size _ _ [_] rfl hown rfl hsz (by show (L.take k).length + 1 ≤ 1073741824; omega) ?_; intro v2 w2 hown2 hg2)
          have hb2 := hown.below hbel hsz hg2
          go_roundw
          case rel => exact ⟨k + 1, p + 2, by omega, by omega, by go_num, Hn, by rw [htk.out, Hq.out]; exact hown2, hb2, Nat.le_trans hsz hg2.size⟩
          case measure => simp [intOf]; omega
      · subst q
        obtain ⟨sp, sr, sn⟩ := hspot.out [92, 110] (by decide)
        have s0 : wr.cell? ⟨g, o + p, none⟩ = some (.int .u8 92) := by have h := hcell.out p hpn; rwa [show (encS L).getD p 0 = 92 from sp 0 (by simp)] at h
        have sr' : p + 2 + 1 ≤ n := sr
        have s1 : wr.cell? ⟨g, o + (p + 1), none⟩ = some (.int .u8 110) := by have h := hcell.out (p + 1) (by omega); rwa [show (encS L).getD (p + 1) 0 = 110 from sp 1 (by simp)] at h
        have Hn : Hid (p + 2 = 1 + (encL (L.take (k + 1))).length) := sn
        clear sp sr sn
        go_wp2_with (at_builtin; refine app_new _ rfl (.tmp 71) (.tmp 72) rfl w.heap.size _ _ [10] rfl hown rfl hsz (by show (L.take k).length + 1 ≤ 1073741824; omega) ?_; intro v2 w2 hown2 hg2)
        have hb2 := hown.below hbel hsz hg2
        go_roundw
        case rel => exact ⟨k + 1, p + 2, by omega, by omega, by go_num, Hn, by rw [htk.out]; exact hown2, hb2, Nat.le_trans hsz hg2.size⟩
        case measure => simp [intOf]; omega
      · subst q
        obtain ⟨sp, sr, sn⟩ := hspot.out [92, 114] (by decide)
        have s0 : wr.cell? ⟨g, o + p, none⟩ = some (.int .u8 92) := by have h := hcell.out p hpn; rwa [show (encS L).getD p 0 = 92 from sp 0 (by simp)] at h
        have sr' : p + 2 + 1 ≤ n := sr
        have s1 : wr.cell? ⟨g, o + (p + 1), none⟩ = some (.int .u8 114) := by have h := hcell.out (p + 1) (by omega); rwa [show (encS L).getD (p + 1) 0 = 114 from sp 1 (by simp)] at h
        have Hn : Hid (p + 2 = 1 + (encL (L.take (k + 1))).length) := sn
        clear sp sr sn
        go_wp2_with (at_builtin; refine app_new _ rfl (.tmp 78) (.tmp 79) rfl w.heap.size _ _ [13] rfl hown rfl hsz (by show (L.take k).length + 1 ≤ 1073741824; omega) ?_; intro v2 w2 hown2 hg2)
        have hb2 := hown.below hbel hsz hg2
        go_roundw
        case rel => exact ⟨k + 1, p + 2, by omega, by omega, by go_num, Hn, by rw [htk.out]; exact hown2, hb2, Nat.le_trans hsz hg2.size⟩
        case measure => simp [intOf]; omega
      · subst q
        obtain ⟨sp, sr, sn⟩ := hspot.out [92, 116] (by decide)
        have s0 : wr.cell? ⟨g, o + p, none⟩ = some (.int .u8 92) := by have h := hcell.out p hpn; rwa [show (encS L).getD p 0 = 92 from sp 0 (by simp)] at h
        have sr' : p + 2 + 1 ≤ n := sr
        have s1 : wr.cell? ⟨g, o + (p + 1), none⟩ = some (.int .u8 116) := by have h := hcell.out (p + 1) (by omega); rwa [show (encS L).getD (p + 1) 0 = 116 from sp 1 (by simp)] at h
        have Hn : Hid (p + 2 = 1 + (encL (L.take (k + 1))).length) := sn
        clear sp sr sn
        go_wp2_with (at_builtin; refine app_new _ rfl (.tmp 85) (.tmp 86) rfl w.heap.size _ _ [9] rfl hown rfl hsz (by show (L.take k).length + 1 ≤ 1073741824; omega) ?_; intro v2 w2 hown2 hg2)
        have hb2 := hown.below hbel hsz hg2
        go_roundw
        case rel => exact ⟨k + 1, p + 2, by omega, by omega, by go_num, Hn, by rw [htk.out]; exact hown2, hb2, Nat.le_trans hsz hg2.size⟩
        case measure => simp [intOf]; omega
      · obtain ⟨sp, sr, sn⟩ := hspot.out _ (enc_ctl q0 q1 q2 q3)
        have s0 : wr.cell? ⟨g, o + p, none⟩ = some (.int .u8 92) := by have h := hcell.out p hpn; rwa [show (encS L).getD p 0 = 92 from sp 0 (by simp)] at h
        have sr' : p + 6 + 1 ≤ n := sr
        have s1 : wr.cell? ⟨g, o + (p + 1), none⟩ = some (.int .u8 117) := by have h := hcell.out (p + 1) (by omega); rwa [show (encS L).getD (p + 1) 0 = 117 from sp 1 (by simp)] at h
        have s2 : wr.cell? ⟨g, o + (p + 2), none⟩ = some (.int .u8 48) := by have h := hcell.out (p + 2) (by omega); rwa [show (encS L).getD (p + 2) 0 = 48 from sp 2 (by simp)] at h
        have s3 : wr.cell? ⟨g, o + (p + 3), none⟩ = some (.int .u8 48) := by have h := hcell.out (p + 3) (by omega); rwa [show (encS L).getD (p + 3) 0 = 48 from sp 3 (by simp)] at h
        have s4 : wr.cell? ⟨g, o + (p + 4), none⟩ = some (.int .u8 (hexd (c / 16))) := by have h := hcell.out (p + 4) (by omega); rwa [show (encS L).getD (p + 4) 0 = hexd (c / 16) from sp 4 (by simp)] at h
        have s5 : wr.cell? ⟨g, o + (p + 5), none⟩ = some (.int .u8 (hexd (c % 16))) := by have h := hcell.out (p + 5) (by omega); rwa [show (encS L).getD (p + 5) 0 = hexd (c % 16) from sp 5 (by simp)] at h
        have Hn : Hid (p + 6 = 1 + (encL (L.take (k + 1))).length) := sn
        have d0 : 0 ≤ c % 16 := by omega
        have d1 : c % 16 < 16 := by omega
        have t1 : (c == 10) = false := beq_eq_false_iff_ne.2 q1
        have t2 : (c == 13) = false := beq_eq_false_iff_ne.2 q2
        have t3 : (c == 9) = false := beq_eq_false_iff_ne.2 q3
        clear sp sr sn q1 q2 q3
        by_cases h16 : c < 16
        · have e4 : hexd (c / 16) = 48 := by rw [show c / 16 = 0 by omega]; rfl
          rw [e4] at s4
          have eo : bits .or .u8 0 (c % 16) = c := by rw [or_zero d0 d1]; omega
          clear e4
          go_wp2_with (first
            | (go_at_call 14; refine (hex_any (c % 16) _ d0 d1).mono ?_; rintro e w' ⟨rfl, rfl⟩)
            | (at_builtin; refine app_new _ rfl (.tmp 150) (.tmp 152) rfl w.heap.size _ _ [c] rfl hown rfl hsz (by show (L.take k).length + 1 ≤ 1073741824; omega) ?_; intro v2 w2 hown2 hg2))
          have hb2 := hown.below hbel hsz hg2
          go_roundw
          case rel => exact ⟨k + 1, p + 6, by omega, by omega, by go_num, Hn, by rw [htk.out]; exact hown2, hb2, Nat.le_trans hsz hg2.size⟩
          case measure => simp [intOf]; omega
        · have e4 : hexd (c / 16) = 49 := by rw [show c / 16 = 1 by omega]; rfl
          rw [e4] at s4
          have eo : bits .or .u8 16 (c % 16) = c := by rw [or_16 d0 d1]; omega
          clear e4
          go_wp2_with (first
            | (go_at_call 14; refine (hex_any (c % 16) _ d0 d1).mono ?_; rintro e w' ⟨rfl, rfl⟩)
            | (at_builtin; refine app_new _ rfl (.tmp 150) (.tmp 152) rfl w.heap.size _ _ [c] rfl hown rfl hsz (by show (L.take k).length + 1 ≤ 1073741824; omega) ?_; intro v2 w2 hown2 hg2))
          have hb2 := hown.below hbel hsz hg2
          go_roundw
          case rel => exact ⟨k + 1, p + 6, by omega, by omega, by go_num, Hn, by rw [htk.out]; exact hown2, hb2, Nat.le_trans hsz hg2.size⟩
          case measure => simp [intOf]; omega
    · have hp' := hp.out
      have hke : k = L.length := by omega
      rw [hke] at hp'
      have he := spot_end hp' hn.out
      have h1 : wr.cell? ⟨g, o + p, none⟩ = some (.int .u8 34) := by have h := hcell.out p hpn; rwa [he.1] at h
      have g1 : p + 1 ≤ n := by omega
      have g2 : n ≤ p + 1 := by omega
      have hown' := hown
      rw [hke, List.take_length] at hown'
      have gb : ((p : Int) == (n : Int) - 1) = true := beq_iff_eq.2 (by omega)
      clear he hp' hke
      go_wp2
      go_ret2
      exact ⟨_, rfl, hown', hbel⟩
end Go.Proofs.Qxb6630153a
