/-
  Seat b6630063a: the arguments opened: what the rows' steps of both laws share.
-/
import Derived.Test.Qxb6630063aFresh
import Derived.ProofKit
import Derived.OpenShut
import Derived.ShutString
import Derived.ChangeOld
import Derived.Below
import Derived.SizedLaws
import Derived.SliceStrings
namespace Go.Proofs.Qxb6630063a
open Go.ChangeShapes Go.WideShapes Go.ChangeAt Go.RowKit Go.WideElems Go.Maps
open Go.ChangeMaps (open_string shut_string)

theorem own : ownKnob Try.prog.godebug = none := by kernel_rfl
theorem laidOut : laidOutB Try.prog = true := by kernel_rfl

theorem atKey_mem {H : Type} {es : List (Lit × DataW H)} {k l : Lit} (h : (DataW.map es).atKey k .nil = .lit l) : ∃ p ∈ es, p.2 = .lit l := by
  unfold DataW.atKey at h
  simp only at h
  cases hf : es.find? (fun p => p.1.sameKey k) with
  | none => rw [hf] at h; simp at h
  | some p => rw [hf] at h; exact ⟨p, List.mem_of_find?_eq_some hf, by simpa using h⟩

theorem weights_entry {H : Type} {P : Program} {e : TypeId} : ∀ {es : List (Lit × DataW H)} {p : Lit × DataW H}, p ∈ es → ∀ {s : List UInt8}, p.2 = .lit (.string s) → s.length ∈ DataW.weightsEntries P e es
  | x :: r, p, hp, s, hs => by
    rw [DataW.weightsEntries, List.mem_append]
    rcases List.mem_cons.1 hp with rfl | h
    · left
      obtain ⟨a, b⟩ := p
      simp only at hs
      subst hs
      unfold DataW.weightsEntry
      split
      · rename_i heq
        cases heq
        simp [DataW.weights]
      · rename_i heq
        cases heq
        simp [DataW.weights]
    · exact .inr (weights_entry h hs)

/-- What the walk is told of the labels that came in. -/
theorem open_labels {H : Type} {enc : TypeId × Value → H} {W : World} {base : Nat} {sp : Nat → Bool} {held : Bool} {ao : Option Nat} {d : DataW H} {p : List MemPlace} (h : DataW.Trod enc Try.prog W base sp held 22 (.map ao) d p) :
    ∃ D0 : DataW H, Lab W ao D0 ∧ ∀ (n : Nat), (∀ m ∈ d.weights Try.prog 22, m ≤ n) → ∀ kl (s : ByteArray), (∀ z, D0.atKey kl z = .lit (.string s.data.toList)) → s.size ≤ n := by
  obtain ⟨fuel, hf⟩ := h
  rcases open_map Try.underlying22 hf with ⟨hcs, hx⟩ | ⟨bm, es, clock, m, rfl, hcs, hb, _, F, hx⟩
  · simp [Value.cells] at hcs
    subst hcs
    refine ⟨.map [], .inl ⟨rfl, rfl⟩, fun n _ kl s hat => ?_⟩
    have := hat .nil
    simp [DataW.atKey] at this
  · simp [Value.cells] at hcs
    subst hcs
    simp only [Prod.mk.injEq] at hx
    obtain ⟨rfl, rfl⟩ := hx
    refine ⟨_, .inr ⟨bm, _, rfl, World.ownsMap_of_fit (R := plainElem Try.prog 9) hb F (fun x _ z hz => elemAt_plainElem_string Try.underlying9 hz)⟩, fun n hn kl s hat => ?_⟩
    obtain ⟨q, hq, hq2⟩ := atKey_mem (hat .nil)
    have := hn s.data.toList.length (by rw [DataW.weights, Try.underlying22]; exact List.mem_cons_of_mem _ (weights_entry hq hq2))
    simpa using this

/-- What the walk is told of the probes that came in. -/
theorem open_probes {H : Type} {enc : TypeId × Value → H} {W : World} {base : Nat} {sp : Nat → Bool} {held : Bool} {pa : Option Addr} {len cap : Nat} {d : DataW H} {p : List MemPlace} (h : DataW.Trod enc Try.prog W base sp held 23 (.slice pa len cap) d p) :
    len = 0 ∨ (len ≤ maxLen ∧ ∃ pb po, pa = some ⟨pb, po, none⟩ ∧ Strs W pb po len) := by
  obtain ⟨fuel, hf⟩ := h
  rcases open_strings Try.underlying23 Try.underlying9 (by kernel_rfl) hf with ⟨hcs, _⟩ | ⟨a, l, c, ss, hcs, _, hl, hm, hz, _, hcell, hws⟩
  · simp [Value.cells] at hcs
    exact .inl hcs.2.1
  · simp [Value.cells] at hcs
    obtain ⟨rfl, rfl, rfl⟩ := hcs
    by_cases h0 : len = 0
    · exact .inl h0
    right
    have hle : len ≤ ss.length := by rw [hz]; split <;> omega
    obtain ⟨b, off, spot⟩ := a
    have hspot : spot = none := by simpa [Addr.add] using World.cell?_spot (hcell 0 (by omega))
    subst hspot
    have hcell' : ∀ j, j < len → W.cell? ⟨b, off + j, none⟩ = some (.string (ss.getD j ByteArray.empty)) := fun j hj => by rw [← add_plain]; exact hcell j (by omega)
    refine ⟨by omega, b, off, rfl, ?_, fun i hi => ⟨_, hcell' i hi, ?_⟩⟩
    · have := hcell' 0 (by omega)
      rcases Nat.lt_or_ge b W.heap.size with h' | h'
      · exact h'
      · simp [World.cell?, Array.getElem?_eq_none h'] at this
    · refine hws _ ?_
      rw [List.getD, List.getElem?_eq_getElem (by omega)]
      exact List.getElem_mem _
end Go.Proofs.Qxb6630063a
