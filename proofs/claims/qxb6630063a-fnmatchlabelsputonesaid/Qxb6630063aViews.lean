/-
  Seat b6630063a: a map that may be nil, as the walks meet it: what len and the look-ups give, as equations; MatchLabels of any such map.
-/
import Derived.Test.Qxb6630063aMatch
namespace Go.Proofs.Qxb6630063a
open Go.RowKit Go.Maps

/-- What the string p reads as, as a key. -/
abbrev key (p : ByteArray) : Lit := .string p.data.toList

theorem str_inj {H : Type} {a b : ByteArray} (h : (DataW.lit (.string a.data.toList) : DataW H) = .lit (.string b.data.toList)) : a = b := by
  simp at h
  exact ByteArray.ext (Array.toList_inj.1 (by simpa using h))

/-- The map value 'ao' (nil, or a block) reads as D. -/
def Mp {H : Type} (R : Value → Option (DataW H × List MemPlace)) (w : World) (ao : Option Nat) (D : DataW H) : Prop :=
  (ao = none ∧ D = .map []) ∨ ∃ b n, ao = some b ∧ w.ownsMap Try.prog 9 R b n D

section
variable {H : Type} {R : Value → Option (DataW H × List MemPlace)} {w w' : World} {ao : Option Nat} {D : DataW H}

theorem Mp.lt (h : Mp R w ao D) : ∀ b, ao = some b → b < w.heap.size := by
  rintro b rfl
  rcases h with ⟨h, _⟩ | ⟨b', n, h, hown⟩
  · cases h
  · cases h; exact hown.lt

theorem Mp.kept (h : Mp R w ao D) (hk : ∀ b, ao = some b → w'.heap[b]? = w.heap[b]?) : Mp R w' ao D := by
  rcases h with h | ⟨b, n, rfl, es, clock, hb, r⟩
  · exact .inl h
  · exact .inr ⟨b, n, rfl, es, clock, by rw [hk b rfl]; exact hb, r⟩

theorem Mp.below (h : Mp R w ao D) {B : Nat} (hb : Below B w w') (hB : w.heap.size ≤ B) : Mp R w' ao D :=
  h.kept fun b hb' => hb.block b (by have := h.lt b hb'; omega)

theorem Mp.len (h : Mp R w ao D) {t e : TypeId} (ht : Try.prog.underlying t = some (.map 9 e)) (ty : TypeId) : (Builtin.len_ #[t] ty #[.map ao]).run Try.prog w = .ok (.int .i64 (Maps.size D)) w := by
  rcases h with ⟨rfl, rfl⟩ | ⟨b, n, rfl, hown⟩
  · exact Maps.len_nil ht ty
  · exact hown.len ht ty

theorem Mp.no (h : Mp R w ao D) {t e : TypeId} (ht : Try.prog.underlying t = some (.map 9 e)) {z : Value} (hz : (zeroValue e).run Try.prog w = .ok z w) {p : ByteArray} (hp : p.size ≤ maxLen) (hh : has D (key p) = false) (c : Bool) :
    (Instr.lookup t (.map ao) (.string p) c).run Try.prog w = .ok (if c then .tuple #[z, .bool false] else z) w := by
  have hkey := WideMaps.keyOf_string_mk (P := Try.prog) Try.underlying9 hp
  rcases h with ⟨rfl, rfl⟩ | ⟨b, n, rfl, es, clock, hb, F, _, rfl⟩
  · exact Maps.look_nil c law ht hz hkey
  · rcases Maps.fit_look c law ht hz hb F hkey with ⟨hrun, _⟩ | ⟨e0, y, _, _, _, _, hat, _⟩
    · exact hrun
    · rw [Maps.has_true_of_atKey hat] at hh
      cases hh

theorem Mp.yes (h : Mp R w ao D) {t e : TypeId} (ht : Try.prog.underlying t = some (.map 9 e)) {z : Value} (hz : (zeroValue e).run Try.prog w = .ok z w) {p : ByteArray} (hp : p.size ≤ maxLen) (hh : has D (key p) = true) (c : Bool) :
    ∃ v y, (Instr.lookup t (.map ao) (.string p) c).run Try.prog w = .ok (if c then .tuple #[v, .bool true] else v) w ∧ R v = some y ∧ ∀ zd, D.atKey (key p) zd = y.1 := by
  have hkey := WideMaps.keyOf_string_mk (P := Try.prog) Try.underlying9 hp
  rcases h with ⟨rfl, rfl⟩ | ⟨b, n, rfl, es, clock, hb, F, _, rfl⟩
  · cases hh
  · rcases Maps.fit_look c law ht hz hb F hkey with ⟨_, _, hat⟩ | ⟨e0, y, _, _, hrun, hv, hat, _⟩
    · rw [Maps.has_false_of_atKey hat] at hh
      cases hh
    · exact ⟨e0.val, y, hrun, hv, hat⟩

theorem Mp.canon (h : Mp R w ao D) : Canon D := by
  rcases h with ⟨_, rfl⟩ | ⟨b, n, _, hown⟩
  · exact canon_empty
  · exact hown.canon law
end

/-- The labels' map. -/
abbrev Lab {H : Type} (w : World) (ao : Option Nat) (D : DataW H) : Prop := Mp (plainElem Try.prog 9) w ao D
/-- A selector's map. -/
abbrev Sv {H : Type} (w : World) (ao : Option Nat) (D : DataW H) : Prop := Mp selElem w ao D

section
variable {H : Type} {w : World} {ao : Option Nat} {D D0 : DataW H} {p s : ByteArray}

theorem lab_no (h : Lab w ao D) (hp : p.size ≤ maxLen) (hh : has D (key p) = false) :
    (Instr.lookup 22 (.map ao) (.string p) true).run Try.prog w = .ok (.tuple #[.string ByteArray.empty, .bool false]) w := Mp.no h Try.underlying22 (zero9 w) hp hh true

theorem lab_str (h : Lab w ao D) (hp : p.size ≤ maxLen) (hh : has D (key p) = true) : ∃ s : ByteArray, s.size ≤ maxLen ∧ ∀ z, D.atKey (key p) z = .lit (.string s.data.toList) := by
  obtain ⟨v, y, _, hv, hat⟩ := Mp.yes h Try.underlying22 (zero9 w) hp hh true
  obtain ⟨s, rfl, rfl, hs⟩ := plainElem_string_inv Try.underlying9 hv
  exact ⟨s, hs, hat⟩

theorem lab_yes (h : Lab w ao D) (hp : p.size ≤ maxLen) (hat : ∀ z, D.atKey (key p) z = .lit (.string s.data.toList)) :
    (Instr.lookup 22 (.map ao) (.string p) true).run Try.prog w = .ok (.tuple #[.string s, .bool true]) w := by
  obtain ⟨v, y, hrun, hv, hat'⟩ := Mp.yes h Try.underlying22 (zero9 w) hp (Maps.has_true_of_atKey hat) true
  obtain ⟨s', rfl, rfl, hs⟩ := plainElem_string_inv Try.underlying9 hv
  have := str_inj ((hat' .nil).symm.trans (hat .nil))
  subst this
  exact hrun

theorem sv_no (h : Sv w ao D) (hp : p.size ≤ maxLen) (hh : has D (key p) = false) :
    (Instr.lookup 25 (.map ao) (.string p) true).run Try.prog w = .ok (.tuple #[.slice none 0 0, .bool false]) w := Mp.no h Try.underlying25 (zero23 w) hp hh true

theorem sv_any (h : Sv w ao D) (hp : p.size ≤ maxLen) {g : Nat} (hat : ∀ z, D.atKey (key p) z = .lit (.int .i64 (g : Int))) (c : Bool) :
    (Instr.lookup 25 (.map ao) (.string p) c).run Try.prog w = .ok (if c then .tuple #[.slice (some ⟨g, 0, none⟩) 1 1, .bool true] else .slice (some ⟨g, 0, none⟩) 1 1) w := by
  obtain ⟨v, y, hrun, hv, hat'⟩ := Mp.yes h Try.underlying25 (zero23 w) hp (Maps.has_true_of_atKey hat) c
  have e := (hat' .nil).symm.trans (hat .nil)
  obtain ⟨y1, y2⟩ := y
  subst e
  obtain rfl := selElem_inv hv
  exact hrun

theorem sv_yes (h : Sv w ao D) (hp : p.size ≤ maxLen) {g : Nat} (hat : ∀ z, D.atKey (key p) z = .lit (.int .i64 (g : Int))) :
    (Instr.lookup 25 (.map ao) (.string p) true).run Try.prog w = .ok (.tuple #[.slice (some ⟨g, 0, none⟩) 1 1, .bool true]) w := sv_any h hp hat true
theorem sv_get (h : Sv w ao D) (hp : p.size ≤ maxLen) {g : Nat} (hat : ∀ z, D.atKey (key p) z = .lit (.int .i64 (g : Int))) :
    (Instr.lookup 25 (.map ao) (.string p) false).run Try.prog w = .ok (.slice (some ⟨g, 0, none⟩) 1 1) w := sv_any h hp hat false
end

set_option maxHeartbeats 400000 in
theorem match_empty {H : Type} (ao : Option Nat) (D0 : DataW H) (w : World) (hl : Lab w ao D0) (h0 : Maps.size D0 = 0) :
    Calls Try.prog 5 #[.map ao] w fun e w' => e = .returned (.map none) ∧ w = w' := by
  have hlen := fun ty => Mp.len hl Try.underlying22 ty
  rw [h0] at hlen
  go_enter Try.func5, Try.ntmps5
  go_wp2
  go_ret
  exact ⟨rfl, rfl⟩

/-- MatchLabels of any map of labels. -/
theorem match_all {H : Type} (ao : Option Nat) (D0 : DataW H) (w : World) (hl : Lab w ao D0) (hmax : Maps.size D0 ≤ 1048576) :
    Calls Try.prog 5 #[.map ao] w fun e w' => ∃ (so : Option Nat) (D : DataW H), e = .returned (.map so) ∧ Sv w' so D ∧ (∀ B, so = some B → B = w.heap.size) ∧ so.isNone = (((Maps.size D0 : Nat) : Int) == 0) ∧ (∀ kl, has D kl = has D0 kl) ∧ Maps.size D = Maps.size D0 ∧ Cells w' (w.heap.size + 1) w'.heap.size D D0 ∧ Below w.heap.size w w' := by
  by_cases h0 : Maps.size D0 = 0
  · refine (match_empty ao D0 w hl h0).mono ?_
    rintro e w' ⟨rfl, rfl⟩
    have hk : ∀ kl, has (DataW.map [] : DataW H) kl = has D0 kl := fun kl => by
      obtain ⟨es, rfl, _⟩ := Mp.canon hl
      simp only [size_eq] at h0
      rw [List.length_eq_zero_iff.1 h0]
    exact ⟨none, .map [], rfl, .inl ⟨rfl, rfl⟩, fun B h => (by cases h), by simp [h0], hk, h0.symm, fun kl h => (by cases h), Below.refl _ _⟩
  · rcases hl with ⟨rfl, rfl⟩ | ⟨b, n, rfl, hown⟩
    · exact absurd rfl h0
    · refine (match_any b n D0 w hown (by omega) hmax).mono ?_
      rintro e w' ⟨rfl, ⟨D, hs, hsz⟩, hb⟩
      have hn : (((Maps.size D0 : Nat) : Int) == 0) = false := beq_eq_false_iff_ne.2 (by omega)
      exact ⟨some w.heap.size, D, rfl, .inr ⟨_, _, rfl, hs.own⟩, fun B h => (by cases h; rfl), by rw [hn]; rfl, hs.keys, hsz, hs.cells, hb⟩
end Go.Proofs.Qxb6630063a
