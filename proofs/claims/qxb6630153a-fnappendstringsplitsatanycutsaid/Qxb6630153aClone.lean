/-
  Seat b6630153a: jdb1EscLen (13), jdb1Clone (6), the two bounds on lengths (5, 11), walked.
-/
import Derived.Test.Qxb6630153aEqual
import Derived.Lib.SliceRun
namespace Go.Proofs.Qxb6630153a
open Go.RowKit

theorem ret_int {k : IntKind} {a b : Int} (h : a = b) : Ending.returned (.int k a) = .returned (.int k b) := by rw [h]

/-- How long one byte's escape is. -/
theorem len_two {c : Int} (h : c = 34 ∨ c = 92 ∨ c = 10 ∨ c = 13 ∨ c = 9) : (enc1 c).length = 2 := by
  rcases h with rfl | rfl | rfl | rfl | rfl <;> decide
theorem len_six {c : Int} (h : c < 32) (h1 : c ≠ 10) (h2 : c ≠ 13) (h3 : c ≠ 9) : (enc1 c).length = 6 := by rw [enc_ctl h h1 h2 h3]; rfl
theorem len_one {c : Int} (h : 32 ≤ c) (h1 : c ≠ 34) (h2 : c ≠ 92) : (enc1 c).length = 1 := by rw [enc_plain h h1 h2]; rfl
theorem len_take {l : List Int} {k n m : Nat} (h : k < l.length) (hn : (encL (l.take k)).length = n) (hm : (enc1 (l.getD k 0)).length = m) : (encL (l.take (k + 1))).length = n + m := by
  rw [encL_take h, List.length_append, hn, hm]

set_option maxHeartbeats 1000000 in
theorem escLen_any (s : ByteArray) (w : World) (hs : s.size ≤ 1048576) :
    Calls Try.prog 13 #[.string s] w fun e w' => e = .returned (.int .i64 (((encL (sl s)).length : Nat) : Int)) ∧ w = w' := by
  have hbs := get_bt s
  have hsl : Hid ((sl s).length = s.size) := sl_length s
  go_enter Try.func13, Try.ntmps13
  go_wp2
  go_loop [3, 4] (fun n i => ∃ k m : Nat, k ≤ s.size ∧ m ≤ 6 * k ∧ i = .int .i64 k ∧ n = .int .i64 m ∧ Hid ((encL ((sl s).take k)).length = m)) (fun _ i => s.size - (intOf i).toNat)
  case atStart => exact ⟨0, 0, Nat.zero_le _, Nat.zero_le _, rfl, rfl, (rfl : (encL ((sl s).take 0)).length = 0)⟩
  case round =>
    obtain ⟨k, m, hk, hm, rfl, rfl, hinv⟩ := hrel
    by_cases hlt : k < s.size
    · have hkl : k < (sl s).length := by rw [hsl.out]; exact hlt
      have hbd := bt_bd s k
      obtain ⟨hc0, hc1⟩ := hbd
      rcases (show (bt s k = 34 ∨ bt s k = 92 ∨ bt s k = 10 ∨ bt s k = 13 ∨ bt s k = 9) ∨ (bt s k < 32 ∧ bt s k ≠ 10 ∧ bt s k ≠ 13 ∧ bt s k ≠ 9) ∨ (32 ≤ bt s k ∧ bt s k ≠ 34 ∧ bt s k ≠ 92) by omega) with hc | ⟨hq, q1, q2, q3⟩ | ⟨hq, q1, q2⟩
      · have hst : Hid _ := len_take hkl hinv.out (len_two hc)
        clear hkl
        rcases hc with hc | hc | hc | hc | hc
        all_goals
          go_wp2
          go_round
          case rel => exact ⟨k + 1, m + 2, by omega, by omega, by go_num, by go_num, hst⟩
          case measure => simp [intOf]; omega
      · have hst : Hid _ := len_take hkl hinv.out (len_six hq q1 q2 q3)
        have t0 : (bt s k == 34) = false := beq_eq_false_iff_ne.2 (by omega)
        have t00 : (bt s k == 92) = false := beq_eq_false_iff_ne.2 (by omega)
        have t1 : (bt s k == 10) = false := beq_eq_false_iff_ne.2 q1
        have t2 : (bt s k == 13) = false := beq_eq_false_iff_ne.2 q2
        have t3 : (bt s k == 9) = false := beq_eq_false_iff_ne.2 q3
        clear hkl q1 q2 q3
        go_wp2
        go_round
        case rel => exact ⟨k + 1, m + 6, by omega, by omega, by go_num, by go_num, hst⟩
        case measure => simp [intOf]; omega
      · have hst : Hid _ := len_take hkl hinv.out (len_one hq q1 q2)
        have t0 : (bt s k == 34) = false := beq_eq_false_iff_ne.2 q1
        have t00 : (bt s k == 92) = false := beq_eq_false_iff_ne.2 q2
        have t1 : (bt s k == 10) = false := beq_eq_false_iff_ne.2 (by omega)
        have t2 : (bt s k == 13) = false := beq_eq_false_iff_ne.2 (by omega)
        have t3 : (bt s k == 9) = false := beq_eq_false_iff_ne.2 (by omega)
        clear hkl q1 q2
        go_wp2
        go_round
        case rel => exact ⟨k + 1, m + 1, by omega, by omega, by go_num, by go_num, hst⟩
        case measure => simp [intOf]; omega
    · go_wp2
      go_ret
      exact ⟨ret_int (by have h := hinv.out; rw [List.take_of_length_le (by rw [hsl.out]; omega)] at h; rw [h]), rfl⟩

/-- The call's own row of bytes at block g, filled from the left: its numbers are zs. -/
theorem made_row {w : World} {g n : Nat} (h : w.ownsRow g 5 1 (.slice (some ⟨g, 0, none⟩) n n) n (madeCells (Value.int .u8 0).cells (n * 1)).toList) : Ob w g (.slice (some ⟨g, 0, none⟩) n n) (List.replicate n 0) := by
  have e : (Value.int .u8 0).cells = #[.int .u8 0] := rfl
  rw [e, toList_madeCells_one, Nat.mul_one] at h
  unfold Ob
  rw [List.length_replicate, List.map_replicate]
  exact h
theorem row_store {w : World} {g n : Nat} {zs : List Int} (hl : zs.length = n) (h : Ob w g (.slice (some ⟨g, 0, none⟩) n n) zs) (j : Nat) (c : Int) : Ob (w.setCell ⟨g, j, none⟩ (.int .u8 c)) g (.slice (some ⟨g, 0, none⟩) n n) (zs.set j c) := by
  subst hl
  have := (World.ownsRow.stored h j (.int .u8 c)).1
  rw [← List.map_set] at this
  unfold Ob
  rw [List.length_set]
  exact this
theorem row_cell {w : World} {g n : Nat} {zs : List Int} (hl : zs.length = n) (h : Ob w g (.slice (some ⟨g, 0, none⟩) n n) zs) {j : Nat} (hj : j < n) : w.cell? ⟨g, j, none⟩ = some (.int .u8 (zs.getD j 0)) := by
  subst hl
  rw [World.ownsRow.cellAt h j (by omega)]
  simp [List.getD, hj]
theorem row_free {w : World} {g n : Nat} {zs : List Int} (hl : zs.length = n) (h : Ob w g (.slice (some ⟨g, 0, none⟩) n n) zs) (j : Nat) : w.frozen? ⟨g, j, none⟩ = false := by
  subst hl
  exact World.ownsRow.frozenAt h j

theorem fill_end {zs xs : List Int} {n k : Nat} (hl : zs.length = n) (hx : xs.length = n) (hk : n ≤ k) (h : ∀ j, j < k → zs.getD j 0 = xs.getD j 0) : zs = xs := by
  apply List.ext_getElem?
  intro i
  by_cases hi : i < n
  · have e := h i (by omega)
    rw [List.getD, List.getD, List.getElem?_eq_getElem (by omega), List.getElem?_eq_getElem (by omega)] at e
    rw [List.getElem?_eq_getElem (by omega), List.getElem?_eq_getElem (by omega)]
    simpa using e
  · rw [List.getElem?_eq_none (by omega), List.getElem?_eq_none (by omega)]
theorem fill_step {xs zs : List Int} {n k : Nat} (hl : zs.length = n) (hk : k < n) (h : ∀ j, j < k → zs.getD j 0 = xs.getD j 0) : ∀ j, j < k + 1 → (zs.set k (xs.getD k 0)).getD j 0 = xs.getD j 0 := fun j hj => by
  by_cases e : j = k
  · rw [e]
    simp [List.getD, show k < zs.length by omega]
  · have := h j (by omega)
    simp only [List.getD] at this ⊢
    rw [List.getElem?_set_ne (Ne.symm e)]
    exact this

set_option maxHeartbeats 400000 in
theorem clone_nil (w : World) : Calls Try.prog 6 #[.slice none 0 0] w fun e w' => e = .returned (.slice none 0 0) ∧ w = w' := by
  have hnil := fun wx => Lib.run_eql_slice_nil (P := Try.prog) wx 22 5 none 0 0 0 0 Try.underlying22
  go_enter Try.func6, Try.ntmps6
  go_wp2
  go_ret
  exact ⟨rfl, rfl⟩

set_option maxHeartbeats 400000 in
theorem clone_some (a : Addr) (n cap : Nat) (xs : List Int) (w : World) (hn : n ≤ 1048576) (hb : Bv w (some a) n xs) (hlt : n = 0 ∨ a.block < w.heap.size) :
    Calls Try.prog 6 #[.slice (some a) n cap] w fun e w' => e = .returned (.slice (some ⟨w.heap.size, 0, none⟩) n n) ∧ Ob w' w.heap.size (.slice (some ⟨w.heap.size, 0, none⟩) n n) xs ∧ Below w.heap.size w w' := by
  obtain ⟨i0, hi, hz0, hz1, hz2⟩ := info_parts Try.info5
  have hnil := fun wx ax => Lib.run_eql_slice_nil (P := Try.prog) wx 22 5 (some ax) n cap 0 0 Try.underlying22
  by_cases h0 : n = 0
  · subst h0
    have hx : xs = [] := List.eq_nil_of_length_eq_zero hb.1
    go_enter Try.func6, Try.ntmps6
    go_wp2_with (at_make; refine wpList_make_full _ rfl _ _ 22 rfl w.heap.size 5 i0 (.int .u8 0) 1 Try.underlying22 hi hz0 hz1 _ _ _ _ 0 rfl rfl rfl rfl (by rw [hz2]; omega) (by unfold maxLen; omega) (Nat.le_refl _) ?_; intro w1 hown hgrow)
    have hb1 : Below w.heap.size w w1 := (Below.refl _ _).grown hgrow (Nat.le_refl _) (by intro k hk; cases hk)
    have hr1 := made_row hown
    clear hown hgrow hi hz0 hz1 hz2
    refine wp_loop_rounds 1 ?_
    rw [rounds_succ]
    go_wp2
    go_ret
    exact ⟨rfl, by rw [hx]; exact hr1, hb1⟩
  · obtain ⟨g, o, ea, hc⟩ := hb.2.resolve_left h0
    cases ea
    have hgl : g < w.heap.size := hlt.resolve_left h0
    have Hc : Hid _ := hc
    have Hx : Hid (xs.length = n) := hb.1
    clear hc hb hlt
    go_enter Try.func6, Try.ntmps6
    go_wp2_with (at_make; refine wpList_make_full _ rfl _ _ 22 rfl w.heap.size 5 i0 (.int .u8 0) 1 Try.underlying22 hi hz0 hz1 _ _ _ _ n rfl rfl rfl rfl (by rw [hz2]; omega) (by unfold maxLen; omega) (Nat.le_refl _) ?_; intro w1 hown hgrow)
    have hb1 : Below w.heap.size w w1 := (Below.refl _ _).grown hgrow (Nat.le_refl _) (by intro k hk; cases hk)
    have hr1 := made_row hown
    clear hown hgrow hi hz0 hz1 hz2
    go_loopw [4] (fun i wr => ∃ (k : Nat) (zs : List Int), k ≤ n ∧ i = .int .i64 k ∧ Hid (zs.length = n) ∧ Ob wr w.heap.size (.slice (some ⟨w.heap.size, 0, none⟩) n n) zs ∧ Hid (∀ j, j < k → zs.getD j 0 = xs.getD j 0) ∧ Below w.heap.size w wr) (fun i _ => n - (intOf i).toNat)
    case atStart => exact ⟨0, _, Nat.zero_le _, rfl, (List.length_replicate : (List.replicate n (0 : Int)).length = n), hr1, fun j hj => by omega, hb1⟩
    case round =>
      obtain ⟨k, zs, hk, rfl, hzl, hrow, hall, hbel⟩ := hrel
      by_cases hkn : k < n
      · have h1 : wr.cell? ⟨g, o + k, none⟩ = some (.int .u8 (xs.getD k 0)) := (hbel.cell (by exact hgl)).trans (Hc.out k hkn)
        have h2 := row_cell hzl.out hrow hkn
        have h3 := row_free hzl.out hrow k
        have hf : Hid _ := fill_step hzl.out hkn hall.out
        have hs := row_store hzl.out hrow k (xs.getD k 0)
        generalize xs.getD k 0 = x at h1 hf hs
        generalize zs.getD k 0 = y at h2
        go_wp2
        go_roundw
        case rel => exact ⟨k + 1, zs.set k x, by omega, by go_num, by unfold Hid; rw [List.length_set]; exact hzl.out, hs, hf, hbel.setCell (Nat.le_refl _) _⟩
        case measure => simp [intOf]; omega
      · go_wp2
        go_ret
        exact ⟨rfl, by rw [← fill_end hzl.out Hx.out (by omega) hall.out]; exact hrow, hbel⟩
end Go.Proofs.Qxb6630153a
