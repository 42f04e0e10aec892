/-
  Seat b6630153a: a slice of bytes that came in, as the laws' walks take it.
-/
import Derived.Test.Qxb6630153aShapes
import Derived.ProofKit
namespace Go.Proofs.Qxb6630153a
open Go.ChangeShapes Go.WideShapes Go.ChangeAt Go.RowKit

theorem row_open {w : World} {a : Option Addr} {len cap : Nat} {zs : List Int}
    (h : (a = none ∧ len = 0 ∧ cap = 0 ∧ zs = []) ∨ ∃ x, a = some x ∧ len ≤ cap ∧ cap ≤ maxLen ∧ zs.length = cap ∧ (∀ i, i < zs.length → w.cell? (x.add i) = some (.int .u8 (zs.getD i 0))) ∧ ∀ n ∈ zs, (Lit.int .u8 n).wf = true) :
    Bv w a len (zs.take len) ∧ (a = none → len = 0 ∧ cap = 0) ∧ (len = 0 ∨ ∀ x, a = some x → x.block < w.heap.size) ∧ len ≤ maxLen := by
  rcases h with ⟨rfl, rfl, rfl, rfl⟩ | ⟨x, rfl, hl, hm, hz, hc, _⟩
  · exact ⟨⟨rfl, .inl rfl⟩, fun _ => ⟨rfl, rfl⟩, .inl rfl, Nat.zero_le _⟩
  · by_cases h0 : len = 0
    · subst h0
      exact ⟨⟨rfl, .inl rfl⟩, fun e => (by cases e), .inl rfl, Nat.zero_le _⟩
    · obtain ⟨b, off, spot⟩ := x
      have hspot : spot = none := by simpa [Addr.add] using World.cell?_spot (hc 0 (by omega))
      subst hspot
      have hcell : ∀ j, j < len → w.cell? ⟨b, off + j, none⟩ = some (.int .u8 ((zs.take len).getD j 0)) := fun j hj => by
        rw [← add_plain, hc j (by omega), List.getD, List.getD, List.getElem?_take, if_pos hj]
      refine ⟨⟨by rw [List.length_take]; omega, .inr ⟨b, off, rfl, hcell⟩⟩, fun e => (by cases e), .inr fun x hx => ?_, by omega⟩
      cases hx
      have := hcell 0 (by omega)
      rcases Nat.lt_or_ge b w.heap.size with h' | h'
      · exact h'
      · simp [World.cell?, Array.getElem?_eq_none h'] at this
end Go.Proofs.Qxb6630153a
