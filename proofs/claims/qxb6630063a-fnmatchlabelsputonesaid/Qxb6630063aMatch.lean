/-
  Seat b6630063a: MatchLabels (function 5), walked once for both laws.
-/
import Derived.Test.Qxb6630063aParts
namespace Go.Proofs.Qxb6630063a
open Go.RowKit Go.Maps

/-- What MatchLabels leaves of a map that is not empty. -/
structure Sel {H : Type} (w : World) (lo B N : Nat) (D D0 : DataW H) : Prop where
  own : w.ownsMap Try.prog 9 selElem B N D
  keys : ∀ kl, has D kl = has D0 kl
  cells : Cells w lo w.heap.size D D0

set_option maxHeartbeats 400000 in
set_option maxRecDepth 100000 in
theorem match_any {H : Type} (b n : Nat) (D0 : DataW H) (w : World) (hown : w.ownsMap Try.prog 9 (plainElem Try.prog 9) b n D0) (hpos : 0 < Maps.size D0) (hmax : Maps.size D0 ≤ 1048576) :
    Calls Try.prog 5 #[.map (some b)] w fun e w' => e = .returned (.map (some w.heap.size)) ∧ (∃ D : DataW H, Sel w' (w.heap.size + 1) w.heap.size (Maps.size D0) D D0 ∧ Maps.size D = Maps.size D0) ∧ Below w.heap.size w w' := by
  have hmm := fun n w => makeMap_hint (t := 25) Try.underlying25 .i64 n w
  have hlen := fun ty => hown.len Try.underlying22 ty
  have hbl := hown.lt
  have hc0 : (((Maps.size D0 : Nat) : Int) == 0) = false := beq_eq_false_iff_ne.2 (by omega)
  have e1 : (w.alloc (.map #[] 0)).heap.size = w.heap.size + 1 := by simp
  go_enter Try.func5, Try.ntmps5
  go_wp2_with (at_range; refine wpList_range_own _ rfl _ 22 rfl 9 9 law Try.underlying22 _ b n _ rfl (hown.alloc _) ?_; intro w0 hrg0 hg0 hs0)
  go_frame
  rw [e1] at hrg0 hs0 ⊢
  clear hmm hlen
  go_loopw [4, 5] (fun _ _ wr => ∃ (left : Lit → Bool) (cnt m : Nat) (Dout : DataW H), wr.ranges Try.prog 9 (plainElem Try.prog 9) b (w.heap.size + 1) n D0 left cnt ∧ m + cnt ≤ Maps.size D0 ∧
      wr.ownsMap Try.prog 9 selElem w.heap.size m Dout ∧ Hid (∀ k, has Dout k = (has D0 k && !left k)) ∧ Cells wr (w.heap.size + 2) wr.heap.size Dout D0 ∧ Below w.heap.size w wr ∧ w.heap.size + 2 ≤ wr.heap.size)
    (fun _ _ wr => wr.rangeLeft b (w.heap.size + 1))
  case atStart =>
    exact ⟨_, _, 0, .map [], hrg0, by omega, (World.ownsMap_made _ _ _ _).kept hg0 (by simp), fun k => (by cases has D0 k <;> rfl), fun k hk => (by cases hk), ((Below.refl _ _).alloc (Nat.le_refl _) _).grown hg0 (by simp) (fun j hj => by cases hj), by omega⟩
  case round =>
    obtain ⟨left, cnt, m, Dout, hrg, hcs, hout, hA, hcl, hnx, hsz⟩ := hrel
    go_wp2_with (at_next; refine next_ss _ rfl _ rfl b (w.heap.size + 1) n _ _ _ rfl hrg ?_ ?_)
    · intro hc0 hl0
      go_wp2
      go_ret
      have hk : ∀ kl, has Dout kl = has D0 kl := fun kl => by rw [hA.out kl, hl0]; simp
      have hs := size_of_has (hout.canon law) (hown.canon law) hk
      exact ⟨rfl, ⟨Dout, ⟨hout.mono (by omega), hk, hcl.low (by omega)⟩, hs⟩, hnx⟩
    · intro x c w1 cnt1 hwx hwc hlx hat hrg1 hlt hg1 hs1 hen
      have hout1 := hout.kept hg1 (by simp)
      go_wp2_with (at_mapUpdate; refine wpList_mapUpdate_own _ rfl _ _ _ 25 rfl 9 23 law Try.underlying25 _ w.heap.size _ _ rfl (hout1.alloc _) (by unfold maxLen; omega) _ _ _ rfl rfl (WideMaps.keyOf_string_mk Try.underlying9 hwx) _ [] (selElem_mk _) ?_; intro w2 hout2 hg2; go_frame)
      have hsw : wr.heap.size < w2.heap.size := by have := hg2.size; simp at this; omega
      have hrg2 := (hrg1.alloc (.cells #[.string c] 9)).kept hg2 (fun e => by have := Option.some.inj e; omega) (fun e => by have := Option.some.inj e; omega)
      have hblk : ∀ g, w.heap.size + 2 ≤ g → g < wr.heap.size → w2.heap[g]? = wr.heap[g]? := fun g h1 h2 => by
        rw [hg2.block g (by simp; omega) (fun e => by have := Option.some.inj e; omega), Below.heap_alloc _ _ _ (by omega), hg1.block g h2 (fun e => by have := Option.some.inj e; omega)]
      have hnew : w2.heap[wr.heap.size]? = some (.cells #[.string c] 9 (0, 0)) := by
        rw [hg2.block _ (by simp; omega) (fun e => by have := Option.some.inj e; omega), ← hs1]
        exact heap_alloc_new w1 _
      go_roundw
      case rel =>
        exact ⟨_, cnt1, m + 1, _, hrg2, by omega, hout2, agree_put (kl := .string x.data.toList) hA.out hout.isMap trivial hat, hcl.put (kl := .string x.data.toList) hout.isMap trivial (by omega) hblk (by omega) hsw hnew hat,
          ((hnx.grown hg1 hnx.size (fun j hj => by cases hj; exact Nat.le_succ _)).alloc (by have := hnx.size; omega) _).grown hg2 (by have := hnx.size; simp; omega) (fun j hj => by cases hj; exact Nat.le_refl _), by omega⟩
      case measure => rw [hrg2.left_eq, hrg.left_eq]; exact hlt
end Go.Proofs.Qxb6630063a
