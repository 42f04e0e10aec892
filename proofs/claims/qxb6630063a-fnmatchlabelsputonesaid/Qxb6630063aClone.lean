/-
  Seat b6630063a: maps.Clone at map[string]string (functions 6, 7), walked after the shelf's text for it.
-/
import Derived.Test.Qxb6630063aViews
import Derived.Shelf.SlMaps.Clone
namespace Go.Proofs.Qxb6630063a
open Go.RowKit Go.Maps

set_option maxHeartbeats 800000 in
theorem clone_block (b : Nat) (es : Array MapEntry) (clock : Nat) (w : World) (hb : w.heap[b]? = some (.map es clock)) :
    Calls Try.prog 6 #[.map (some b)] w fun e w' => e = .returned (.map (some w.heap.size)) ∧ w' = w.alloc (.map es clock) := by
  have hq := fun w => run_eql_map_nil_sl (P := Try.prog) w 22 _ _ (some b) Try.underlying22
  go_enter Try.func6, Try.ntmps6
  go_wp2
  rw [run_callFunc_extern Try.func7 (by kernel_rfl) (by kernel_rfl) (by kernel_rfl) (e := Extern.MapsClone.clone) (by kernel_rfl), run_maps_clone_sl w 22 hb]
  simp only [Result.andThen]
  rw [Oper.upon_value]
  go_wp2
  rw [run_typeAssert_map_sl _ 22 20 _ _ _ Try.underlying22]
  simp only [Result.andThen]
  rw [Oper.upon_value]
  go_wp2
  go_ret
  exact ⟨rfl, rfl⟩

set_option maxHeartbeats 800000 in
theorem clone_nil (w : World) :
    Calls Try.prog 6 #[.map none] w fun e w' => e = .returned (.map none) ∧ w' = w := by
  have hq := fun w => run_eql_map_nil_sl (P := Try.prog) w 22 _ _ none Try.underlying22
  go_enter Try.func6, Try.ntmps6
  go_wp2
  go_ret
  exact ⟨rfl, rfl⟩

/-- maps.Clone of any map of labels: nil of nil; else a copy in a new block. -/
theorem clone_all {H : Type} (ao : Option Nat) (D0 : DataW H) (w : World) (hl : Lab w ao D0) :
    Calls Try.prog 6 #[.map ao] w fun e w' => ∃ co : Option Nat, e = .returned (.map co) ∧ ((co = none ∧ D0 = .map [] ∧ w = w') ∨ (co = some w.heap.size ∧ w'.ownsMap Try.prog 9 (plainElem Try.prog 9) w.heap.size (Maps.size D0) D0 ∧ Below w.heap.size w w')) := by
  rcases hl with ⟨rfl, rfl⟩ | ⟨b, n, rfl, es, clock, hb, F, hs, hD⟩
  · refine (clone_nil w).mono ?_
    rintro e w' ⟨rfl, rfl⟩
    exact ⟨none, rfl, .inl ⟨rfl, rfl, rfl⟩⟩
  · refine (clone_block b es clock w hb).mono ?_
    rintro e w' ⟨rfl, rfl⟩
    refine ⟨_, rfl, .inr ⟨rfl, ⟨es, clock, (MapKept.heap_alloc w _).1, F, ?_, hD⟩, (Below.refl _ w).alloc (Nat.le_refl _) _⟩⟩
    rw [hD]
    simp [Maps.size, length_sorted]

theorem lab_any {H : Type} {w : World} {ao : Option Nat} {D0 : DataW H} (hl : Lab w ao D0) {k : ByteArray} (hk : k.size ≤ maxLen) :
    ∃ x0 : ByteArray, ∀ wx, Below w.heap.size w wx → (Instr.lookup 22 (.map ao) (.string k) true).run Try.prog wx = .ok (.tuple #[.string x0, .bool (has D0 (key k))]) wx := by
  cases hh : has D0 (key k)
  · exact ⟨_, fun wx hb => lab_no (Mp.below hl hb (Nat.le_refl _)) hk hh⟩
  · obtain ⟨s, _, hat⟩ := lab_str hl hk hh
    exact ⟨s, fun wx hb => lab_yes (Mp.below hl hb (Nat.le_refl _)) hk hat⟩

/-- The copy of the labels with one entry laid. -/
theorem put_facts {H : Type} {D0 : DataW H} {k v : ByteArray} {R : Value → Option (DataW H × List MemPlace)} {w : World} {b n : Nat} (h : w.ownsMap Try.prog 9 R b n D0) :
    (∀ p : ByteArray, p ≠ k → has (D0.put (key k) (.lit (.string v.data.toList))) (key p) = has D0 (key p) ∧ ∀ z, (D0.put (key k) (.lit (.string v.data.toList))).atKey (key p) z = D0.atKey (key p) z) ∧
    (∀ z, (D0.put (key k) (.lit (.string v.data.toList))).atKey (key k) z = .lit (.string v.data.toList)) ∧
    Maps.size (D0.put (key k) (.lit (.string v.data.toList))) = if has D0 (key k) then Maps.size D0 else Maps.size D0 + 1 := by
  refine ⟨fun p hp => ?_, fun z => atKey_put_same (k := key k) h.isMap trivial _ z, size_put (h.tidy law) _⟩
  have hne : key p ≠ key k := fun e => hp (by
    simp at e
    exact ByteArray.ext (Array.toList_inj.1 (by simpa using e)))
  exact ⟨has_put_other hne _, fun z => atKey_put_other hne _ z⟩
end Go.Proofs.Qxb6630063a
