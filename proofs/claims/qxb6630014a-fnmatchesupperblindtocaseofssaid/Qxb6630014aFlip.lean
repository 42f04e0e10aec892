/-
  Seat b6630014a: the second law's helpers: flippedAt (9), upperCased (10): a row of bytes that the call makes, filled in a loop, and made a string.
-/
import Derived.Test.Qxb6630014aMu
import Derived.Laws.BytesArg
namespace Go.Proofs.Qxb6630014a
open Go.RowKit

theorem Try.info5 : (Try.prog.info? 5).map (fun i => (i.zero, i.size, i.bytes)) = some (some (.int .u8 0), 1, 1) := by kernel_rfl

/-- The call's own row of bytes at block g: its numbers are zs. -/
structure Row (w : World) (g n : Nat) (zs : List Int) : Prop where
  len : zs.length = n
  own : w.ownsRow g 5 1 (.slice (some ⟨g, 0, none⟩) n n) n (zs.map (Value.int .u8))
  bd : ∀ j, 0 ≤ zs.getD j 0 ∧ zs.getD j 0 ≤ 255

theorem Row.cell {w : World} {g n : Nat} {zs : List Int} (h : Row w g n zs) {j : Nat} (hj : j < n) : w.cell? ⟨g, j, none⟩ = some (.int .u8 (zs.getD j 0)) := by
  rw [h.own.cellAt j (by omega)]
  have := h.len
  simp [List.getD, show j < zs.length by omega]
theorem Row.free {w : World} {g n : Nat} {zs : List Int} (h : Row w g n zs) (j : Nat) : w.frozen? ⟨g, j, none⟩ = false := h.own.frozenAt j
theorem Row.store {w : World} {g n : Nat} {zs : List Int} (h : Row w g n zs) (j : Nat) (c : Int) (h0 : 0 ≤ c) (h1 : c ≤ 255) : Row (w.setCell ⟨g, j, none⟩ (.int .u8 c)) g n (zs.set j c) := by
  refine ⟨by simpa using h.len, ?_, fun i => ?_⟩
  · have := (h.own.stored j (.int .u8 c)).1
    rwa [← List.map_set] at this
  · have hb := h.bd i
    simp only [List.getD, List.getElem?_set] at hb ⊢
    split
    · split
      · exact ⟨h0, h1⟩
      · simp
    · exact hb
theorem Row.made {w : World} {g n : Nat} (h : w.ownsRow g 5 1 (.slice (some ⟨g, 0, none⟩) n n) n (madeCells (Value.int .u8 0).cells (n * 1)).toList) : Row w g n (List.replicate n 0) := by
  refine ⟨by simp, ?_, fun i => ?_⟩
  · have e : (Value.int .u8 0).cells = #[.int .u8 0] := rfl
    rw [e, toList_madeCells_one, Nat.mul_one] at h
    simpa using h
  · simp only [List.getD, List.getElem?_replicate]
    split <;> simp
theorem Row.asStr {w : World} {g n : Nat} {zs : List Int} (h : Row w g n zs) : (convert 27 9 (.slice (some ⟨g, 0, none⟩) n n)).run Try.prog w = .ok (.string (strOfNums zs)) w :=
  run_convert_bytes_arg w 27 5 Try.underlying27 Try.underlying5 g 0 n n zs h.len (fun i hi => by rw [Nat.zero_add]; exact h.cell hi) 9 Try.underlying9
theorem Row.bt {w : World} {g n : Nat} {zs : List Int} (h : Row w g n zs) (j : Nat) : bt (strOfNums zs) j = zs.getD j 0 := by
  have hb := h.bd j
  unfold Qxb6630014a.bt
  split
  · rename_i hj
    have hj' : j < zs.length := by rwa [strOfNums_size] at hj
    have e : (strOfNums zs)[j] = UInt8.ofNat (zs[j]).toNat := by
      have e1 : (strOfNums zs)[j] = (strOfNums zs).data.toList[j]'(by simpa using hj) := rfl
      rw [e1]
      simp only [strOfNums_data, List.getElem_map]
    rw [e]
    simp only [List.getD, List.getElem?_eq_getElem hj', Option.getD_some] at hb ⊢
    rw [UInt8.toNat_ofNat']
    omega
  · rename_i hj
    rw [strOfNums_size] at hj
    simp [List.getD, List.getElem?_eq_none (show zs.length ≤ j by omega)]

theorem set_same {zs : List Int} {n k : Nat} (hl : zs.length = n) (hk : k < n) (c : Int) : (zs.set k c).getD k 0 = c := by
  simp [List.getD, show k < zs.length by omega]
theorem set_other {zs : List Int} {k j : Nat} (hj : j ≠ k) (c : Int) : (zs.set k c).getD j 0 = zs.getD j 0 := by
  simp [List.getD, Ne.symm hj]

theorem fill_step {f : Nat → Int} {zs : List Int} {n k : Nat} (hl : zs.length = n) (hk : k < n) (h : ∀ j, j < k → zs.getD j 0 = f j) {c : Int} (hc : c = f k) : ∀ j, j < k + 1 → (zs.set k c).getD j 0 = f j := fun j hj => by
  by_cases e : j = k
  · rw [e, set_same hl hk, hc]
  · rw [set_other e]; exact h j (by omega)

set_option maxHeartbeats 400000 in
theorem upper_any (s : ByteArray) (w : World) (hs : s.size ≤ 65536) :
    Calls Try.prog 10 #[.string s] w fun e w' => ∃ t : ByteArray, e = .returned (.string t) ∧ t.size = s.size ∧ (∀ j, j < s.size → bt t j = upI (bt s j)) ∧ Below w.heap.size w w' := by
  obtain ⟨i0, hi, hz0, hz1, hz2⟩ := info_parts Try.info5
  have hbs := get_bt s
  go_enter Try.func10, Try.ntmps10
  go_wp2_with (at_make; refine wpList_make_full _ rfl _ _ 27 rfl w.heap.size 5 i0 (.int .u8 0) 1 Try.underlying27 hi hz0 hz1 _ _ _ _ s.size rfl rfl rfl rfl (by rw [hz2]; omega) (by unfold maxLen; omega) (Nat.le_refl _) ?_; intro w1 hown hgrow)
  have hb1 : Below w.heap.size w w1 := (Below.refl _ _).grown hgrow (Nat.le_refl _) (by intro k hk; cases hk)
  have hr1 := Row.made hown
  clear hown hgrow hi hz0 hz1 hz2
  go_loopw [4, 5] (fun i _ wr => ∃ (k : Nat) (zs : List Int), k ≤ s.size ∧ i = .int .i64 k ∧ Row wr w.heap.size s.size zs ∧ Hid (∀ j, j < k → zs.getD j 0 = upI (bt s j)) ∧ Below w.heap.size w wr) (fun i _ _ => s.size - (intOf i).toNat)
  case atStart => exact ⟨0, _, Nat.zero_le _, rfl, hr1, fun j hj => by omega, hb1⟩
  case round =>
    obtain ⟨k, zs, hk, rfl, hrow, hall, hbel⟩ := hrel
    have hn := bt_nonneg s k
    have hl := bt_le s k
    by_cases hlt : k < s.size
    · have hcell := hrow.cell hlt
      have hfree := hrow.free k
      rcases (show (97 ≤ bt s k ∧ bt s k ≤ 122) ∨ bt s k < 97 ∨ 122 < bt s k by omega) with hc | hc | hc
      · obtain ⟨hc1, hc2⟩ := hc
        have hup : Hid (upI (bt s k) = bt s k - 32) := up_lower hc1 hc2
        go_wp2
        go_roundw
        case rel => exact ⟨k + 1, _, by omega, by go_num, hrow.store k _ (by omega) (by omega), fill_step hrow.len hlt hall.out hup.out.symm, hbel.setCell (Nat.le_refl _) _⟩
        case measure => simp [intOf]; omega
      all_goals
        have hup : Hid (upI (bt s k) = bt s k) := up_other (by omega)
        go_wp2
        go_roundw
        case rel => exact ⟨k + 1, _, by omega, by go_num, hrow.store k _ (by omega) (by omega), fill_step hrow.len hlt hall.out hup.out.symm, hbel.setCell (Nat.le_refl _) _⟩
        case measure => simp [intOf]; omega
    · have hconv := hrow.asStr
      go_wp2
      go_ret
      exact ⟨_, rfl, by rw [strOfNums_size]; exact hrow.len, fun j hj => by rw [hrow.bt]; exact hall.out j (by omega), hbel⟩

theorem flip_up {c d : Int} (h : d = c ∨ (97 ≤ c ∧ c ≤ 122 ∧ d = c - 32) ∨ (65 ≤ c ∧ c ≤ 90 ∧ d = c + 32)) : upI d = upI c := by
  unfold upI
  split <;> split <;> omega

theorem flip_fin {s : ByteArray} {zs : List Int} {w : World} {g m k : Nat} {d : Int} (hrow : Row w g s.size zs) (hm : s.size ≤ m) (hall : ∀ j, j < m → zs.getD j 0 = bt s j) (hk : k < s.size) (hd : upI d = upI (bt s k)) :
    ∀ j, j < s.size → upI ((zs.set k d).getD j 0) = upI (bt s j) := fun j hj => by
  by_cases e : j = k
  · rw [e, set_same hrow.len hk, hd]
  · rw [set_other e, hall j (by omega)]

set_option maxHeartbeats 400000 in
theorem flip_any (s : ByteArray) (k : Int) (w : World) (hs : s.size ≤ 65536) (hk0 : 0 ≤ k) (hk1 : k < s.size) :
    Calls Try.prog 9 #[.string s, .int .i64 k] w fun e w' => ∃ t : ByteArray, e = .returned (.string t) ∧ t.size = s.size ∧ (∀ j, j < s.size → upI (bt t j) = upI (bt s j)) ∧ Below w.heap.size w w' := by
  obtain ⟨q, rfl⟩ := Int.eq_ofNat_of_zero_le hk0
  have hq : q < s.size := by omega
  clear hk0 hk1
  obtain ⟨i0, hi, hz0, hz1, hz2⟩ := info_parts Try.info5
  have hbs := get_bt s
  go_enter Try.func9, Try.ntmps9
  go_wp2_with (at_make; refine wpList_make_full _ rfl _ _ 27 rfl w.heap.size 5 i0 (.int .u8 0) 1 Try.underlying27 hi hz0 hz1 _ _ _ _ s.size rfl rfl rfl rfl (by rw [hz2]; omega) (by unfold maxLen; omega) (Nat.le_refl _) ?_; intro w1 hown hgrow)
  have hb1 : Below w.heap.size w w1 := (Below.refl _ _).grown hgrow (Nat.le_refl _) (by intro k hk; cases hk)
  have hr1 := Row.made hown
  clear hown hgrow hi hz0 hz1 hz2
  go_loopw [6] (fun i wr => ∃ (k : Nat) (zs : List Int), k ≤ s.size ∧ i = .int .i64 k ∧ Row wr w.heap.size s.size zs ∧ Hid (∀ j, j < k → zs.getD j 0 = bt s j) ∧ Below w.heap.size w wr) (fun i _ => s.size - (intOf i).toNat)
  case atStart => exact ⟨0, _, Nat.zero_le _, rfl, hr1, fun j hj => by omega, hb1⟩
  case round =>
    obtain ⟨k, zs, hk, rfl, hrow, hall, hbel⟩ := hrel
    by_cases hlt : k < s.size
    · have hcell := hrow.cell hlt
      have hfree := hrow.free k
      have hn := bt_nonneg s k
      have hl := bt_le s k
      go_wp2
      go_roundw
      case rel => exact ⟨k + 1, _, by omega, by go_num, hrow.store k _ (by omega) (by omega), fill_step hrow.len hlt hall.out rfl, hbel.setCell (Nat.le_refl _) _⟩
      case measure => simp [intOf]; omega
    · have hcell : wr.cell? ⟨w.heap.size, q, none⟩ = some (.int .u8 (bt s q)) := by rw [hrow.cell hq, hall.out q (by omega)]
      have hfree := hrow.free q
      have hn := bt_nonneg s q
      have hl := bt_le s q
      rcases (show (97 ≤ bt s q ∧ bt s q ≤ 122) ∨ (65 ≤ bt s q ∧ bt s q ≤ 90) ∨ (bt s q < 65 ∨ (90 < bt s q ∧ bt s q < 97) ∨ 122 < bt s q) by omega) with ⟨hc1, hc2⟩ | ⟨hc1, hc2⟩ | hc
      · have hrow2 := hrow.store q (bt s q - 32) (by omega) (by omega)
        have hconv := hrow2.asStr
        go_wp2
        go_ret
        exact ⟨_, rfl, by rw [strOfNums_size]; exact hrow2.len, fun j hj => by rw [hrow2.bt]; exact flip_fin hrow (by omega) hall.out hq (flip_up (by omega)) j hj, hbel.setCell (Nat.le_refl _) _⟩
      · have hrow2 := hrow.store q (bt s q + 32) (by omega) (by omega)
        have hconv := hrow2.asStr
        go_wp2
        go_ret
        exact ⟨_, rfl, by rw [strOfNums_size]; exact hrow2.len, fun j hj => by rw [hrow2.bt]; exact flip_fin hrow (by omega) hall.out hq (flip_up (by omega)) j hj, hbel.setCell (Nat.le_refl _) _⟩
      · have hconv := hrow.asStr
        rcases hc with hc | ⟨hc, hc'⟩ | hc
        all_goals
          go_wp2
          go_ret
          exact ⟨_, rfl, by rw [strOfNums_size]; exact hrow.len, fun j hj => by rw [hrow.bt, hall.out j (by omega)], hbel⟩
end Go.Proofs.Qxb6630014a
