/-
  Seat b6630063a: the law FnMatchLabelsPutOne (4) where there is no probe, walked.
-/
import Derived.Test.Qxb6630063aPut
namespace Go.Proofs.Qxb6630063a
open Go.RowKit Go.Maps

set_option maxRecDepth 100000 in
set_option maxHeartbeats 4000000 in
theorem put_none {H : Type} (ao : Option Nat) (D0 : DataW H) (k v : ByteArray) (pa : Option Addr) (cap : Nat) (w : World) (hl : Lab w ao D0) (hkl : k.size ≤ maxLen) (hvl : v.size ≤ maxLen) :
    Calls Try.prog 4 #[.map ao, .string k, .string v, .slice pa 0 cap] w fun e w' => e = .returned (.bool true) ∧ Below w.heap.size w w' := by
  have hln := fun ty => Mp.len hl Try.underlying22 ty
  by_cases hN : Maps.size D0 ≤ 65536
  case neg =>
    go_enter Try.func4, Try.ntmps4
    go_wp2
    go_ret
    exact ⟨rfl, Below.refl _ _⟩
  go_enter Try.func4, Try.ntmps4
  go_wp2
  · go_ret
    exact ⟨rfl, Below.refl _ _⟩
  refine wp_loop_rounds 1 ?_
  rw [rounds_succ]
  clear hln
  go_wp2_with fail
  refine (clone_all ao D0 _ hl).mono ?_
  rintro e w1 ⟨co, rfl, hco⟩
  have hmm := fun n w => makeMap_hint (t := 22) Try.underlying22 .i64 n w
  have hnil := fun wx r => run_eql_map_nil (P := Try.prog) wx 22 _ _ r Try.underlying22
  obtain ⟨x0, hx0⟩ := lab_any hl hkl
  have Hx0 : Hid _ := hx0
  clear hx0
  cases hh : has D0 (key k)
  all_goals
    have Hh : Hid _ := hh
    rcases hco with ⟨rfl, hD, rfl⟩ | ⟨rfl, hown, hb1⟩
    case' inl =>
      have hown : (w.alloc (.map #[] 0)).ownsMap Try.prog 9 (plainElem Try.prog 9) w.heap.size (Maps.size D0) D0 := by
        rw [hD]; exact World.ownsMap_made _ _ _ _
      have hb1 : Below w.heap.size w (w.alloc (.map #[] 0)) := (Below.refl _ _).alloc (Nat.le_refl _) _
      clear hD
    all_goals
      have HF : Hid _ := put_facts (k := k) (v := v) hown
      clear hh
      go_wp2_with (at_mapUpdate; refine wpList_mapUpdate_own _ rfl _ _ _ 22 rfl 9 9 law Try.underlying22 _ w.heap.size _ _ rfl hown (by unfold maxLen; omega) _ _ _ rfl rfl (WideMaps.keyOf_string_mk Try.underlying9 hkl) _ [] (plainElem_string Try.underlying9 hvl) ?_; intro w2 hown2 hg2; have hbw := hb1.grown hg2 hb1.size (fun j hj => by cases hj; exact Nat.le_refl _); have hlk := Hx0.out w2 hbw; rw [Hh.out] at hlk)
      obtain ⟨DP, hownP, hF1, hF2, hF3⟩ : ∃ DP : DataW H, w2.ownsMap Try.prog 9 (plainElem Try.prog 9) w.heap.size (Maps.size D0 + 1) DP ∧ Hid (∀ p : ByteArray, p ≠ k → has DP (key p) = has D0 (key p) ∧ ∀ z, DP.atKey (key p) z = D0.atKey (key p) z) ∧ Hid (∀ z, DP.atKey (key k) z = .lit (.string v.data.toList)) ∧ Hid (Maps.size DP = if has D0 (key k) then Maps.size D0 else Maps.size D0 + 1) := ⟨_, hown2, HF.out⟩
      clear hown2 HF hlk hown hg2 hmm hnil
      refine (match_all ao D0 w2 (Mp.below hl hbw (Nat.le_refl _)) (by omega)).mono ?_
      rintro e w3 ⟨so1, D1, rfl, hv1, hB1, hiso1, hk1, hs1, hc1, hb3⟩
      have Hk1 : Hid _ := hk1
      have Hs1 : Hid _ := hs1
      clear hiso1 hB1 hk1 hs1
      have hsP : Maps.size DP ≤ 1048576 := by have := hF3.out; split at this <;> omega
      go_wp2_with fail
      refine (match_all (some w.heap.size) DP w3 (Mp.below (.inr ⟨_, _, rfl, hownP⟩ : Lab w2 (some w.heap.size) DP) hb3 (Nat.le_refl _)) hsP).mono ?_
      rintro e w4 ⟨so2, D2, rfl, hv2, hB2, hiso2, hk2, hs2, hc2, hb4⟩
      have Hk2 : Hid _ := hk2
      have Hs2 : Hid _ := hs2
      clear hiso2 hB2 hk2 hs2
      have hbw4 : Below w.heap.size w w4 := hbw.trans ((hb3.trans (hb4.mono hb3.size)).mono hbw.size)
      have hl4 : Lab w4 ao D0 := Mp.below hl hbw4 (Nat.le_refl _)
      have hv1' : Sv w4 so1 D1 := Mp.below hv1 hb4 (Nat.le_refl _)
      have hc1' : Cells w4 (w2.heap.size + 1) w3.heap.size D1 D0 := hc1.kept (Nat.le_refl _) (fun g _ h => hb4.block g h)
      have hlnA := fun ty => Mp.len hl4 Try.underlying22 ty
      have hln1 := fun ty => Mp.len hv1' Try.underlying25 ty
      have hln2 := fun ty => Mp.len hv2 Try.underlying25 ty
      rw [Hs1.out] at hln1
      rw [Hs2.out, hF3.out, Hh.out] at hln2
      obtain ⟨g, s, hg1, hg2, hg3, hg4, hg5⟩ := hc2 (key k) (by rw [Hk2.out]; exact Maps.has_true_of_atKey hF2.out)
      obtain rfl := str_inj ((hg5 .nil).symm.trans (hF2.out .nil))
      have hget := sv_get hv2 hkl hg1
      have hcell := cell_of_one hg4
      clear hg1 hg4 hg5 hv1 hc1 hb3 hb4 hownP
      simp only [if_true, Bool.false_eq_true, if_false] at hln2
      go_wp2
      clear hlnA hln1 hln2 hget hcell
      refine wp_loop_rounds 1 ?_
      rw [rounds_succ]
      go_wp2
      go_ret
      exact ⟨rfl, hbw4⟩
end Go.Proofs.Qxb6630063a
