/-
  Seat b6630063a: the law FnMatchLabelsSpecFresh (3), walked.
-/
import Derived.Test.Qxb6630063aViews
namespace Go.Proofs.Qxb6630063a
open Go.RowKit Go.Maps

/-- The probes: nothing, or strings that lie in old memory. -/
def Strs (w : World) (pb po len : Nat) : Prop := pb < w.heap.size ∧ ∀ i, i < len → ∃ p : ByteArray, w.cell? ⟨pb, po + i, none⟩ = some (.string p) ∧ p.size ≤ maxLen

/-- The third loop writes only into the first answer's own cells: everything else is as it was when the loop began. -/
structure Old (w w1 w2 wr : World) : Prop where
  old : ∀ g, (g ≤ w.heap.size ∨ w1.heap.size ≤ g) → wr.heap[g]? = w2.heap[g]?
  bel : Below w.heap.size w wr

theorem Old.store {w w1 w2 wr : World} (h : Old w w1 w2 wr) {g : Nat} (h1 : w.heap.size + 1 ≤ g) (h2 : g < w1.heap.size) (X : Value) : Old w w1 w2 (wr.setCell ⟨g, 0, none⟩ X) :=
  ⟨fun j hj => by rw [Below.heap_setCell _ _ _ _ (show j ≠ g by omega)]; exact h.old j hj, h.bel.setCell (show w.heap.size ≤ g by omega) _⟩

/-- The first answer's cells hold strings of bounded length. -/
def Cells1 {H : Type} (w w1 wr : World) (D1 : DataW H) (k : Nat) : Prop :=
  ∀ kl, has D1 kl = true → ∃ (g : Nat) (s : ByteArray), (∀ z, D1.atKey kl z = .lit (.int .i64 (g : Int))) ∧ w.heap.size + 1 ≤ g ∧ g < w1.heap.size ∧ wr.heap[g]? = some (.cells #[.string s] 9 (0, 0)) ∧ s.size ≤ 140737488351232 + k

theorem Cells1.start {H : Type} {w w1 w2 : World} {D1 D0 : DataW H} (h : Cells w2 (w.heap.size + 1) w1.heap.size D1 D0) (hr : ∀ kl (s : ByteArray), (∀ z, D0.atKey kl z = .lit (.string s.data.toList)) → s.size ≤ 140737488351232) : Cells1 w w1 w2 D1 0 := fun kl hkl => by
  obtain ⟨g, s, h1, h2, h3, h4, h5⟩ := h kl hkl
  exact ⟨g, s, h1, h2, h3, h4, hr kl s h5⟩

theorem Cells1.store {H : Type} {w w1 wr : World} {D1 : DataW H} {k : Nat} (h : Cells1 w w1 wr D1 k) {g : Nat} {v : Value} (hg : wr.heap[g]? = some (.cells #[v] 9 (0, 0))) {X : ByteArray} (hX : X.size ≤ 140737488351232 + (k + 1)) : Cells1 w w1 (wr.setCell ⟨g, 0, none⟩ (.string X)) D1 (k + 1) := fun kl hkl => by
  obtain ⟨g', s, h1, h2, h3, h4, h5⟩ := h kl hkl
  by_cases e : g' = g
  · subst e
    exact ⟨g', X, h1, h2, h3, one_setCell hg, hX⟩
  · exact ⟨g', s, h1, h2, h3, by rw [Below.heap_setCell _ _ _ _ e]; exact h4, by omega⟩

theorem Cells1.next {H : Type} {w w1 wr : World} {D1 : DataW H} {k : Nat} (h : Cells1 w w1 wr D1 k) : Cells1 w w1 wr D1 (k + 1) := fun kl hkl => by
  obtain ⟨g, s, h1, h2, h3, h4, h5⟩ := h kl hkl
  exact ⟨g, s, h1, h2, h3, h4, by omega⟩

theorem size_hash {t : ByteArray} {M k : Nat} (h : t.size ≤ M + k) : (t ++ (⟨#[35]⟩ : ByteArray)).size ≤ M + (k + 1) := by
  rw [ByteArray.size_append]
  have : (⟨#[35]⟩ : ByteArray).size = 1 := rfl
  omega

set_option maxRecDepth 100000 in
set_option maxHeartbeats 1600000 in
theorem fresh_some {H : Type} (ao : Option Nat) (D0 : DataW H) (pb po len cap : Nat) (w : World) (hl : Lab w ao D0) (hlen : len ≤ maxLen) (hp : Strs w pb po len)
    (hreach : Hid (∀ kl (s : ByteArray), (∀ z, D0.atKey kl z = .lit (.string s.data.toList)) → s.size ≤ 140737488351232)) :
    Calls Try.prog 3 #[.map ao, .slice (some ⟨pb, po, none⟩) len cap] w fun e w' => e = .returned (.bool true) ∧ Below w.heap.size w w' := by
  unfold maxLen at hlen
  have hln := fun ty => Mp.len hl Try.underlying22 ty
  by_cases hN : Maps.size D0 ≤ 65536
  case neg =>
    go_enter Try.func3, Try.ntmps3
    go_wp2
    go_ret
    exact ⟨rfl, Below.refl _ _⟩
  by_cases hP : len ≤ 65536
  case neg =>
    go_enter Try.func3, Try.ntmps3
    go_wp2
    go_ret
    exact ⟨rfl, Below.refl _ _⟩
  go_enter Try.func3, Try.ntmps3
  go_wp2
  go_loop [5, 6] (fun t i => ∃ (k : Nat) (n : Int), k ≤ len ∧ i = .int .i64 k ∧ t = .int .i64 n) (fun _ i => len - (intOf i).toNat)
  case atStart => exact ⟨0, 0, Nat.zero_le _, rfl, rfl⟩
  case round =>
    obtain ⟨k, n, hk, rfl, rfl⟩ := hrel
    by_cases hlt : k < len
    · obtain ⟨p, hpc, hps⟩ := hp.2 k hlt
      go_wp2
      · go_ret
        exact ⟨rfl, Below.refl _ _⟩
      · go_round
        case rel => exact ⟨k + 1, _, by omega, by go_num, rfl⟩
        case measure => simp [intOf]; omega
    · clear hln
      go_wp2_with fail
      refine (match_all ao D0 _ hl (by omega)).mono ?_
      rintro e w1 ⟨so1, D1, rfl, hv1, hB1, hiso1, hk1, hs1, hc1, hb1⟩
      have Hiso1 : Hid _ := hiso1
      have HB1 : Hid _ := hB1
      have Hk1 : Hid _ := hk1
      have Hs1 : Hid _ := hs1
      clear hiso1 hB1 hk1 hs1
      go_wp2_with fail
      refine (match_all ao D0 w1 (Mp.below hl hb1 (Nat.le_refl _)) (by omega)).mono ?_
      rintro e w2 ⟨so2, D2, rfl, hv2, hB2, hiso2, hk2, hs2, hc2, hb2⟩
      have HB2 : Hid _ := hB2
      have Hk2 : Hid _ := hk2
      have hz1 : w.heap.size ≤ w1.heap.size := hb1.size
      have hz2 : w1.heap.size ≤ w2.heap.size := hb2.size
      have hbw : Below w.heap.size w w2 := hb1.trans (hb2.mono hz1)
      have hl2 : Lab w2 ao D0 := Mp.below hl hbw (Nat.le_refl _)
      have hv1' : Sv w2 so1 D1 := Mp.below hv1 hb2 (Nat.le_refl _)
      have hc1' : Cells w2 (w.heap.size + 1) w1.heap.size D1 D0 := hc1.kept (Nat.le_refl _) (fun g _ h => hb2.block g h)
      have hlnA := fun ty => Mp.len hl2 Try.underlying22 ty
      have hln1 := fun ty => Mp.len hv1' Try.underlying25 ty
      have hln2 := fun ty => Mp.len hv2 Try.underlying25 ty
      rw [Hs1.out] at hln1
      rw [hs2] at hln2
      have hnil := run_eql_map_nil (P := Try.prog) w2 25 _ _ so1 Try.underlying25
      rw [Hiso1.out] at hnil
      clear hs2 hB2 hk2 hiso2 hv1 hc1 hb1 hb2
      go_wp2
      clear hlnA hln1 hln2 hnil
      go_loop [9] (fun i => ∃ k : Nat, k ≤ len ∧ i = .int .i64 k) (fun i => len - (intOf i).toNat)
      case atStart => exact ⟨0, Nat.zero_le _, rfl⟩
      case round =>
        obtain ⟨k2, hkb, rfl⟩ := hrel
        by_cases hlt2 : k2 < len
        · obtain ⟨p, hpc0, hps⟩ := hp.2 k2 hlt2
          have hpc : w2.cell? ⟨pb, po + k2, none⟩ = some (.string p) := (hbw.cell (by exact hp.1)).trans hpc0
          clear hpc0
          cases hh : has D0 (key p)
          · have ha := lab_no hl2 hps hh
            have hb := sv_no hv1' hps (by rw [Hk1.out]; exact hh)
            clear hh
            go_wp2
            go_round
            case rel => exact ⟨k2 + 1, by omega, by go_num⟩
            case measure => simp [intOf]; omega
          · obtain ⟨s, hs, hat⟩ := lab_str hl2 hps hh
            have ha := lab_yes hl2 hps hat
            obtain ⟨g, s', hg1, hg2, hg3, hg4, hg5⟩ := hc1' (key p) (by rw [Hk1.out]; exact hh)
            obtain rfl := str_inj ((hg5 .nil).symm.trans (hat .nil))
            have hb := sv_yes hv1' hps hg1
            have hcell := cell_of_one hg4
            clear hat hg1 hg4 hg5 hh
            go_wp2
            go_round
            case rel => exact ⟨k2 + 1, by omega, by go_num⟩
            case measure => simp [intOf]; omega
        · go_wp2
          go_loopw [15] (fun i wr => ∃ k : Nat, k ≤ len ∧ i = .int .i64 k ∧ Old w w1 w2 wr ∧ Cells1 w w1 wr D1 k) (fun i _ => len - (intOf i).toNat)
          case atStart => exact ⟨0, Nat.zero_le _, rfl, ⟨fun _ _ => rfl, hbw⟩, Cells1.start hc1' hreach.out⟩
          case round =>
            obtain ⟨k3, hkc, rfl, hold, hcells⟩ := hrel
            by_cases hlt3 : k3 < len
            · obtain ⟨p, hpc0, hps⟩ := hp.2 k3 hlt3
              have hpc : wr.cell? ⟨pb, po + k3, none⟩ = some (.string p) := (hold.bel.cell (by exact hp.1)).trans hpc0
              clear hpc0
              have hlab : ∀ wx, Old w w1 w2 wx → Lab wx ao D0 := fun wx ho => Mp.kept hl2 (fun b hb => ho.old b (.inl (Nat.le_of_lt (Mp.lt hl b hb))))
              cases hh : has D0 (key p)
              · have ha := lab_no (hlab wr hold) hps hh
                clear hh hlab
                go_wp2
                go_roundw
                case rel => exact ⟨k3 + 1, by omega, by go_num, hold, hcells.next⟩
                case measure => simp [intOf]; omega
              · obtain ⟨s, hs, hat⟩ := lab_str hl2 hps hh
                have ha := lab_yes (hlab wr hold) hps hat
                obtain ⟨g, t, hg1, hg2, hg3, hg4, hg5⟩ := hcells (key p) (by rw [Hk1.out]; exact hh)
                obtain ⟨g', s', hi1, hi2, hi3, hi4, hi5⟩ := hc2 (key p) (by rw [Hk2.out]; exact hh)
                obtain rfl := str_inj ((hi5 .nil).symm.trans (hat .nil))
                have hb := sv_get (Mp.kept hv1' (fun b hb => hold.old b (.inl (by rw [HB1.out b hb]; exact Nat.le_refl _)))) hps hg1
                have hcell := cell_of_one hg4
                have hfree := free_of_one hg4
                have hsto : ∀ X, Old w w1 w2 (wr.setCell ⟨g, 0, none⟩ (.string X)) := fun X => hold.store hg2 hg3 _
                have hc : ∀ X, (Instr.lookup 25 (.map so2) (.string p) false).run Try.prog (wr.setCell ⟨g, 0, none⟩ (.string X)) = .ok (.slice (some ⟨g', 0, none⟩) 1 1) (wr.setCell ⟨g, 0, none⟩ (.string X)) :=
                  fun X => sv_get (Mp.kept hv2 (fun b hb => (hsto X).old b (.inr (by rw [HB2.out b hb]; exact Nat.le_refl _)))) hps hi1
                have hd : ∀ X, (Instr.lookup 22 (.map ao) (.string p) true).run Try.prog (wr.setCell ⟨g, 0, none⟩ (.string X)) = .ok (.tuple #[.string s', .bool true]) (wr.setCell ⟨g, 0, none⟩ (.string X)) :=
                  fun X => lab_yes (hlab _ (hsto X)) hps hat
                have hcell2 : wr.cell? ⟨g', 0, none⟩ = some (.string s') := cell_of_one (by rw [hold.old g' (.inr (by omega))]; exact hi4)
                have hgg : g' ≠ g := by omega
                clear hat hg1 hi1 hi4 hi5 hh hlab
                go_wp2
                go_roundw
                case rel => exact ⟨k3 + 1, by omega, by go_num, hsto _, hcells.store hg4 (size_hash hg5)⟩
                case measure => simp [intOf]; omega
            · go_wp2
              go_ret
              exact ⟨rfl, hold.bel⟩

set_option maxRecDepth 100000 in
set_option maxHeartbeats 800000 in
theorem fresh_none {H : Type} (ao : Option Nat) (D0 : DataW H) (pa : Option Addr) (cap : Nat) (w : World) (hl : Lab w ao D0) :
    Calls Try.prog 3 #[.map ao, .slice pa 0 cap] w fun e w' => e = .returned (.bool true) ∧ Below w.heap.size w w' := by
  have hln := fun ty => Mp.len hl Try.underlying22 ty
  by_cases hN : Maps.size D0 ≤ 65536
  case neg =>
    go_enter Try.func3, Try.ntmps3
    go_wp2
    go_ret
    exact ⟨rfl, Below.refl _ _⟩
  go_enter Try.func3, Try.ntmps3
  go_wp2
  refine wp_loop_rounds 1 ?_
  rw [rounds_succ]
  clear hln
  go_wp2_with fail
  refine (match_all ao D0 _ hl (by omega)).mono ?_
  rintro e w1 ⟨so1, D1, rfl, hv1, hB1, hiso1, hk1, hs1, hc1, hb1⟩
  have Hiso1 : Hid _ := hiso1
  have Hs1 : Hid _ := hs1
  clear hiso1 hB1 hk1 hs1 hc1
  go_wp2_with fail
  refine (match_all ao D0 w1 (Mp.below hl hb1 (Nat.le_refl _)) (by omega)).mono ?_
  rintro e w2 ⟨so2, D2, rfl, hv2, hB2, hiso2, hk2, hs2, hc2, hb2⟩
  have hz1 : w.heap.size ≤ w1.heap.size := hb1.size
  have hbw : Below w.heap.size w w2 := hb1.trans (hb2.mono hz1)
  have hl2 : Lab w2 ao D0 := Mp.below hl hbw (Nat.le_refl _)
  have hv1' : Sv w2 so1 D1 := Mp.below hv1 hb2 (Nat.le_refl _)
  have hlnA := fun ty => Mp.len hl2 Try.underlying22 ty
  have hln1 := fun ty => Mp.len hv1' Try.underlying25 ty
  have hln2 := fun ty => Mp.len hv2 Try.underlying25 ty
  rw [Hs1.out] at hln1
  rw [hs2] at hln2
  have hnil := run_eql_map_nil (P := Try.prog) w2 25 _ _ so1 Try.underlying25
  rw [Hiso1.out] at hnil
  clear hs2 hB2 hk2 hiso2 hv1 hb1 hb2 hc2
  go_wp2
  refine wp_loop_rounds 1 ?_
  rw [rounds_succ]
  go_wp2
  refine wp_loop_rounds 1 ?_
  rw [rounds_succ]
  go_wp2
  go_ret
  exact ⟨rfl, hbw⟩
end Go.Proofs.Qxb6630063a
