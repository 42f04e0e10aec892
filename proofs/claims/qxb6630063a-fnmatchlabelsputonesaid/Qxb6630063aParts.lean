/-
  Seat b6630063a: small laws that the walks want: string keys and string elements; a map of one-cell slices read by its blocks' numbers.
-/
import Derived.Test.Qxb6630063aRows
import Derived.WalkKit
import Derived.WalkSpells
import Derived.WalkLawsBesides
import Derived.Maps.RangeWalk
import Derived.Maps.StringElems
import Derived.Maps.Ext
namespace Go.Proofs.Qxb6630063a
open Go.RowKit Go.Maps

theorem law : Keyed Try.prog 9 := string_keyed Try.underlying9
theorem zero9 (w : World) : (zeroValue 9).run Try.prog w = .ok (.string ByteArray.empty) w := by kernel_rfl
theorem zero23 (w : World) : (zeroValue 23).run Try.prog w = .ok (.slice none 0 0) w := by kernel_rfl

theorem makeMap_hint {t k e : TypeId} (ht : Try.prog.underlying t = some (.map k e)) (q : IntKind) (n : Int) (w : World) :
    (Instr.makeMap t (some (.int q n))).run Try.prog w = .ok (.map (some w.heap.size)) (w.alloc (.map #[] 0)) := by
  simp [Instr.makeMap, run_underlying ht, Result.andThen, go_sem]

/-- HOW AN ELEMENT OF A SELECTOR READS FOR OUR OWN USE: the number of the block that its one cell lies in. -/
def selElem {H : Type} : Value → Option (DataW H × List MemPlace)
  | .slice (some ⟨g, 0, none⟩) 1 1 => some (.lit (.int .i64 (g : Int)), [])
  | .slice none 0 0 => some (.nil, [])
  | _ => none

theorem selElem_mk {H : Type} (g : Nat) : selElem (H := H) (.slice (some ⟨g, 0, none⟩) 1 1) = some (.lit (.int .i64 (g : Int)), []) := rfl
theorem selElem_nil {H : Type} : selElem (H := H) (.slice none 0 0) = some (.nil, []) := rfl
theorem selElem_inv {H : Type} {v : Value} {g : Nat} {ps : List MemPlace} (h : selElem (H := H) v = some (.lit (.int .i64 (g : Int)), ps)) : v = .slice (some ⟨g, 0, none⟩) 1 1 := by
  unfold selElem at h
  split at h
  · rename_i g'
    simp at h
    obtain rfl : g' = g := by have := h.1; omega
    rfl
  · simp at h
  · cases h

theorem keyOf_str {key : Value} {kl : Lit} (h : keyOf Try.prog 9 key = some kl) : ∃ s : ByteArray, key = .string s ∧ kl = .string s.data.toList ∧ s.size ≤ maxLen := by
  rw [keyOf_string Try.underlying9] at h
  cases key <;> simp [mapKey, Try.underlying9] at h
  exact ⟨_, rfl, h.2.symm, h.1⟩

/-- THE RANGE's STEP, string keys, string elements. -/
theorem next_ss {H : Type} (w : World) {ops : Array Oper} {rest : List Oper} {o : Oper} {a : Act} {Q : Exit → Act → World → Prop}
    (hg : o.guard = none) (it : Operand) (hop : o.op = Op.next it false)
    (b r n : Nat) (D : DataW H) (left : Lit → Bool) (cnt : Nat) (hit : a.eval it = .pointer (some ⟨r, 0, none⟩)) (h : w.ranges Try.prog 9 (plainElem Try.prog 9) b r n D left cnt)
    (hDone : cnt = 0 → (∀ kl, left kl = false) → wpList Try.prog ops Q rest (a.put o.dst (.tuple #[.bool false])) w)
    (hMore : ∀ (x c : ByteArray) (w' : World) (cnt' : Nat), x.size ≤ maxLen → c.size ≤ maxLen → left (.string x.data.toList) = true → (∀ zd, D.atKey (.string x.data.toList) zd = .lit (.string c.data.toList)) → w'.ranges Try.prog 9 (plainElem Try.prog 9) b r n D (fun z => left z && !z.sameKey (.string x.data.toList)) cnt' → cnt' < cnt →
      w.grownBy w' (some r) → w'.heap.size = w.heap.size → (Instr.entry (.pointer (some ⟨r, 0, none⟩))).run Try.prog w' = .ok (.tuple #[.string x, .string c]) w' → wpList Try.prog ops Q rest (a.put o.dst (.tuple #[.bool true, .string x, .string c])) w') :
    wpList Try.prog ops Q (o :: rest) a w :=
  wpList_next_ranges w hg it hop 9 law (plainElem Try.prog 9) Value.string Value.string (fun key kl hkey => by obtain ⟨x, rfl, _⟩ := keyOf_str hkey; exact ⟨x, rfl⟩) (fun v y hv => by obtain ⟨c, rfl, _⟩ := plainElem_string_inv Try.underlying9 hv; exact ⟨c, rfl⟩)
    b r n D left cnt hit h hDone (fun x c kl y w' cnt' hkey hlk hv hat hrg hlt hgr hsz hen => by
      obtain ⟨x', ex, rfl, hwx⟩ := keyOf_str hkey
      cases ex
      obtain ⟨c', ec, rfl, hwc⟩ := plainElem_string_inv Try.underlying9 hv
      cases ec
      exact hMore x c w' cnt' hwx hwc hlk hat hrg hlt hgr hsz hen)

/-- Two maps as read that have the same keys have the same number of entries. -/
theorem size_of_has {H : Type} {D₁ D₂ : DataW H} (c₁ : Canon D₁) (c₂ : Canon D₂) (hh : ∀ k, has D₁ k = has D₂ k) : Maps.size D₁ = Maps.size D₂ := by
  obtain ⟨es₁, rfl, s₁, k₁⟩ := c₁
  obtain ⟨es₂, rfl, s₂, k₂⟩ := c₂
  have hf : ∀ es : List (Lit × DataW H), ∀ k, has (DataW.map (es.map fun p => (p.1, (DataW.nil : DataW H)))) k = has (.map es) k := fun es k => by
    simp only [has_eq, List.any_map]
    rfl
  have hc : ∀ es : List (Lit × DataW H), es.Pairwise (fun p q => p.1.before q.1 = true) → (∀ p ∈ es, WideAt.IsKeyLit p.1) → Canon (DataW.map (es.map fun p => (p.1, (DataW.nil : DataW H)))) := fun es h1 h2 =>
    ⟨_, rfl, by rw [List.pairwise_map]; exact h1, fun p hp => by obtain ⟨q, hq, rfl⟩ := List.mem_map.1 hp; exact h2 q hq⟩
  have ha : ∀ (es : List (Lit × DataW H)) k, has (DataW.map es) k = true → (DataW.map (es.map fun p => (p.1, (DataW.nil : DataW H)))).atKey k .nil = .nil := fun es k hk => by
    induction es with
    | nil => rfl
    | cons p r ih =>
      simp only [DataW.atKey, List.map_cons, List.find?_cons] at ih ⊢
      cases hp : p.1.sameKey k
      · simp only [has_eq, List.any_cons, hp, Bool.false_or] at hk
        exact ih hk
      · rfl
  have key : (es₁.map fun p => (p.1, (DataW.nil : DataW H))) = es₂.map fun p => (p.1, (DataW.nil : DataW H)) := by
    obtain ⟨a₁, e₁, t₁, u₁⟩ := hc es₁ s₁ k₁
    obtain ⟨a₂, e₂, t₂, u₂⟩ := hc es₂ s₂ k₂
    cases e₁
    cases e₂
    refine eq_of_mem_rising t₁ t₂ (fun p => ⟨mem_of_agree t₁ u₁ t₂ (fun k => by rw [hf, hf]; exact hh k) (fun k hk => ?_) p, mem_of_agree t₂ u₂ t₁ (fun k => by rw [hf, hf]; exact (hh k).symm) (fun k hk => ?_) p⟩)
    · rw [hf] at hk
      rw [ha es₁ k hk, ha es₂ k (by rw [← hh]; exact hk)]
    · rw [hf] at hk
      rw [ha es₂ k hk, ha es₁ k (by rw [hh]; exact hk)]
  have := congrArg List.length key
  simpa [size_eq] using this

theorem agree_put {H : Type} {Dout D0 d0 d : DataW H} {left : Lit → Bool} {kl : Lit} (hA : ∀ k, has Dout k = (has D0 k && !left k)) (hm : IsMap Dout) (hk : WideAt.IsKeyLit kl) (hat : ∀ zd, D0.atKey kl zd = d0) :
    ∀ k, has (Dout.put kl d) k = (has D0 k && !(left k && !k.sameKey kl)) := fun k => by
  by_cases e : k = kl
  · subst e
    rw [has_put_same hm hk, has_true_of_atKey hat, WideAt.sameKey_self hk]
    simp
  · rw [has_put_other e, hA k, sameKey_ne e]
    simp

/-- Where block g of a selector's map lies, and what its one cell holds, key by key. -/
def Cells {H : Type} (w : World) (lo hi : Nat) (D D0 : DataW H) : Prop :=
  ∀ kl, has D kl = true → ∃ (g : Nat) (s : ByteArray), (∀ z, D.atKey kl z = .lit (.int .i64 (g : Int))) ∧ lo ≤ g ∧ g < hi ∧ w.heap[g]? = some (.cells #[.string s] 9 (0, 0)) ∧ ∀ z, D0.atKey kl z = .lit (.string s.data.toList)

theorem Cells.kept {H : Type} {w w' : World} {lo hi : Nat} {D D0 : DataW H} (h : Cells w lo hi D D0) {hi' : Nat} (hhi : hi ≤ hi') (hk : ∀ g, lo ≤ g → g < hi → w'.heap[g]? = w.heap[g]?) : Cells w' lo hi' D D0 := fun kl hkl => by
  obtain ⟨g, s, h1, h2, h3, h4, h5⟩ := h kl hkl
  exact ⟨g, s, h1, h2, by omega, by rw [hk g h2 h3]; exact h4, h5⟩

theorem Cells.low {H : Type} {w : World} {lo lo' hi : Nat} {D D0 : DataW H} (h : Cells w lo hi D D0) (hl : lo' ≤ lo) : Cells w lo' hi D D0 := fun kl hkl => by
  obtain ⟨g, s, h1, h2, h3, h4, h5⟩ := h kl hkl
  exact ⟨g, s, h1, by omega, h3, h4, h5⟩

theorem Cells.put {H : Type} {w w' : World} {lo hi : Nat} {D D0 : DataW H} (h : Cells w lo hi D D0) {g : Nat} {kl : Lit} {s : ByteArray} (hm : IsMap D) (hkl : WideAt.IsKeyLit kl) {hi' : Nat} (hhi : hi ≤ hi') (hk : ∀ g, lo ≤ g → g < hi → w'.heap[g]? = w.heap[g]?)
    (hlo : lo ≤ g) (hg : g < hi') (hcell : w'.heap[g]? = some (.cells #[.string s] 9 (0, 0))) (hat : ∀ z, D0.atKey kl z = .lit (.string s.data.toList)) : Cells w' lo hi' (D.put kl (.lit (.int .i64 (g : Int)))) D0 := fun k hk' => by
  by_cases e : k = kl
  · subst e
    exact ⟨g, s, fun z => atKey_put_same hm hkl _ z, hlo, hg, hcell, hat⟩
  · rw [has_put_other e] at hk'
    obtain ⟨g', s', h1, h2, h3, h4, h5⟩ := h k hk'
    exact ⟨g', s', fun z => by rw [atKey_put_other e]; exact h1 z, h2, by omega, by rw [hk g' h2 h3]; exact h4, h5⟩

end Go.Proofs.Qxb6630063a
