/-
  Seat b6630063a: 'Rows.FnMatchLabelsSpecFreshSaid', proved: the row's step over the walk (Fresh).
-/
import Derived.Test.Qxb6630063aOpen
namespace Go.Proofs.Qxb6630063a.fnMatchLabelsSpecFresh
open Go.ChangeShapes Go.WideShapes Go.ChangeAt Go.RowKit Go.WideElems Go.Maps
open Go.ChangeMaps (open_string shut_string)

theorem walk {H : Type} (ao : Option Nat) (D0 : DataW H) (pa : Option Addr) (len cap : Nat) (w : World) (hl : Lab w ao D0)
    (hp : len = 0 ∨ (len ≤ maxLen ∧ ∃ pb po, pa = some ⟨pb, po, none⟩ ∧ Strs w pb po len))
    (hreach : ∀ kl (s : ByteArray), (∀ z, D0.atKey kl z = .lit (.string s.data.toList)) → s.size ≤ 140737488351232) :
    Calls Try.prog 3 #[.map ao, .slice pa len cap] w fun e w' => e = .returned (.bool true) ∧ Below w.heap.size w w' := by
  rcases hp with rfl | ⟨hm, pb, po, rfl, hs⟩
  · exact fresh_none ao D0 pa cap w hl
  · exact fresh_some ao D0 pb po len cap w hl hm hs hreach

set_option maxRecDepth 100000 in
theorem lifted (os : Os) (started : os.Started) (H : Type) (enc : TypeId × Value → H) :
    ReturnsInHanded {} Try.checked os 3 .any (Rows.fnMatchLabelsSpecFreshSpec.pre6 enc Try.prog Try.f3 Rows.fnMatchLabelsSpecFreshRow.domain false) (Rows.fnMatchLabelsSpecFreshSpec.post enc Try.prog Try.f3 false true false false) := by
  refine returnsInHanded_of_change_sized (C := Try.checked) own started (by kernel_rfl) Try.func3
    (ChangeSpec.witness6 (enc := enc) (C := Try.checked) false ⟨#[], #[.map none, .slice none 0 0], []⟩ 8 (by kernel_rfl) (by kernel_rfl) (by kernel_rfl) (by kernel_rfl)) ?_
  intro W base args ds gs before hval0 hW hcnd hsz0 _
  have hval : ∀ (j : Nat) t v, Try.f3.params[j]? = some t → args[j]? = some v → Value.okWide Try.prog W .any base t v := hval0
  have hsz : (DataW.weightsEach Try.prog (Try.f3.params.toList ++ Rows.fnMatchLabelsSpecFreshSpec.plain.varTypes Try.prog) (ds ++ gs)).all (· ≤ reachBytes) = true := hsz0
  have hW' := hW
  obtain ⟨p, q, hA0, hV, rfl, hfz, hnd⟩ := hW
  have hA : DataW.TrodAll enc Try.prog W 0 (fun _ => true) true Try.f3.params.toList args.toList ds p := hA0
  rw [Try.params3] at hA hval hsz
  obtain ⟨v0, vs0, d0, ds0, p0, q0, hargs, rfl, rfl, h0, r0⟩ := trodAll_cons hA
  obtain ⟨v1, vs1, d1, ds1, p1, q1, rfl, rfl, rfl, h1, r1⟩ := trodAll_cons r0
  obtain ⟨rfl, rfl, rfl⟩ := trodAll_nil r1
  obtain rfl : args = #[v0, v1] := by cases args; simp_all
  obtain ⟨rfl, rfl⟩ := trodVars_none hV
  obtain ⟨ao, rfl⟩ := okWide_map Try.underlying22 (hval 0 22 v0 rfl rfl)
  obtain ⟨pa, len, cap, rfl⟩ := okWide_slice Try.underlying23 (hval 1 23 v1 rfl rfl)
  have lt0 : ∀ x ∈ p0, x.block < W.heap.size := by obtain ⟨m, hm⟩ := h0; exact DataW.trod_lt m _ _ _ hm
  have lt1 : ∀ x ∈ p1, x.block < W.heap.size := by obtain ⟨m, hm⟩ := h1; exact DataW.trod_lt m _ _ _ hm
  obtain ⟨D0, hl, hr⟩ := open_labels h0
  have hp := open_probes h1
  have hreach := hr reachBytes (fun m hm => by
    have := List.all_eq_true.1 hsz _ (DataW.weights_mem_each (j := 0) (t := 22) rfl rfl m hm)
    simpa using this)
  clear hA0 hval0 hsz0
  refine (walk ao D0 pa len cap W hl hp hreach).mono fun e W' ⟨he, bel⟩ => ?_
  subst he
  exact ⟨_, rfl, _, _, _, [], _, [], hW', trodAll_mk1 (shut_bool Try.underlying4 _), (trodAll_cons_mk (Below.trod laidOut (by kernel_rfl) (of_decide_eq_true (by kernel_rfl)) h0 bel lt0) (trodAll_cons_mk (Below.trod laidOut (by kernel_rfl) (of_decide_eq_true (by kernel_rfl)) h1 bel lt1) trodAll_mk0)), rfl, bel.frame _, fun h => by cases h⟩

theorem over : Rows.fnMatchLabelsSpecFreshRow.holds Try.pinned (OpenSpec.ofChange Rows.fnMatchLabelsSpecFreshSpec) :=
  OpenClaim.holds_of_wide 3 Try.f3 rfl rfl rfl rfl rfl rfl rfl ⟨rfl, rfl, rfl, rfl, rfl⟩ rfl rfl rfl rfl rfl (by kernel_rfl) Try.func3 (by kernel_rfl)
    (of_decide_eq_true (by kernel_rfl)) (by unfold Func.isWrapper; first | (rw [if_pos (by decide +kernel)]; kernel_rfl) | (rw [if_neg (by decide +kernel)]; exact ⟨rfl, rfl⟩))
    (fun os started H enc _ => lifted os started H enc)

/-- THE STATEMENT -/
theorem proved : Rows.FnMatchLabelsSpecFreshSaid :=
  over
#print axioms proved
end Go.Proofs.Qxb6630063a.fnMatchLabelsSpecFresh
