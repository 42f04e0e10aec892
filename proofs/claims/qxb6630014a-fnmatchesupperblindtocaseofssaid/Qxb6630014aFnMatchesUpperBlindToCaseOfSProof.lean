/-
  THE SHELL OF A PROOF OF 'Rows.FnMatchesUpperBlindToCaseOfSSaid' ('example.com/isolene/isolene/zzlaws_internal_ascii_b1.FnMatchesUpperBlindToCaseOfS'), WRITTEN BY PROGRAM (proof-skeleton.mjs).
  The walk is ours; all else is THE GUIDE's TEMPLATE (howto/template/XProofs.lean) at this function's number and types: leave it.
-/
import Derived.Test.Qxb6630014aRows
import Derived.Test.Qxb6630014aBlind
import Derived.Below
import Derived.ChangeOld
import Derived.WalkKit
import Derived.ProofKit
import Derived.OpenShut
import Derived.ShutString
namespace Go.Proofs.Qxb6630014a.fnMatchesUpperBlindToCaseOfS
open Go.ChangeShapes Go.WideShapes Go.ChangeAt Go.RowKit
open Go.ChangeMaps (open_string shut_string)
set_option linter.unusedVariables false      -- a walk need not use every 'w<i>' (that an integer argument fits its kind)

theorem own : ownKnob Try.prog.godebug = none := by kernel_rfl

/-! ### STEP 1: THE WALK: the Go text returns true. 'Grown w w'': the world has at most new blocks (Derived/RowKit3.lean). Part the cases AHEAD of 'go_enter' where a test parts the walk; take each callee by a contract of your own. -/
theorem walk (a0 : ByteArray) (a1 : ByteArray) (a2 : Int) (w0 : a0.size ≤ maxLen) (w1 : a1.size ≤ maxLen) (w : World) :
    Calls Try.prog 4 #[.string a0, .string a1, .int .i64 a2] w fun e w' => e = .returned (.bool true) ∧ Below w.heap.size w w' := by
  go_enter Try.func4, Try.ntmps4
  go_wp2_with fail
  refine (zzB_any a0 a1 a2 _ w0 w1).mono ?_
  rintro e w' ⟨b, rfl, rfl⟩
  cases b
  · go_wp2_with fail
    go_ret
    exact ⟨rfl, Below.refl _ _⟩
  by_cases h0 : a0.size ≤ 65536
  case neg =>
    go_wp2_with fail
    go_ret
    exact ⟨rfl, Below.refl _ _⟩
  by_cases h1 : a1.size ≤ 65536
  case neg =>
    go_wp2_with fail
    go_ret
    exact ⟨rfl, Below.refl _ _⟩
  by_cases hk0 : 0 ≤ a2
  case neg =>
    go_wp2_with fail
    go_ret
    exact ⟨rfl, Below.refl _ _⟩
  by_cases hk1 : a2 < a0.size
  case neg =>
    go_wp2_with fail
    go_ret
    exact ⟨rfl, Below.refl _ _⟩
  go_wp2_with fail
  refine (flip_any a0 a2 _ h0 hk0 hk1).mono ?_
  rintro e w1 ⟨t, rfl, ht, hup, hb1⟩
  have Ht : Hid (t.size = a0.size) := ht
  have Hup : Hid (∀ j, j < a0.size → upI (bt t j) = upI (bt a0 j)) := hup
  have ht' : t.size ≤ maxLen := by omega
  clear ht hup
  go_wp2_with fail
  refine (upper_any a0 _ h0).mono ?_
  rintro e w2 ⟨nm, rfl, hn, hnm, hb2⟩
  have e1 : Hid (mu t a1 = mu a0 a1) := mu_blind Ht.out Hup.out a1
  have e2 : Hid (mu a0 nm = true) := mu_name rfl hn (fun _ _ => rfl) hnm
  have e3 : Hid (mu t nm = true) := mu_name Ht.out hn Hup.out hnm
  have hb : Below w.heap.size w w2 := hb1.trans (hb2.mono hb1.size)
  clear hn hnm hb1 hb2
  go_wp2_with fail
  refine (mu_any a0 a1 _ w0).mono ?_
  rintro e w3 ⟨rfl, rfl⟩
  go_wp2_with fail
  refine (mu_any t a1 _ ht').mono ?_
  rintro e w3 ⟨rfl, rfl⟩
  rw [e1.out]
  go_wp2_with fail
  refine (mu_any a0 nm _ w0).mono ?_
  rintro e w3 ⟨rfl, rfl⟩
  rw [e2.out]
  go_wp2_with fail
  refine (mu_any t nm _ ht').mono ?_
  rintro e w3 ⟨rfl, rfl⟩
  rw [e3.out]
  go_wp2_with fail
  go_ret
  exact ⟨ret_bool (by simp), hb⟩

/-! ### THE ROW's STEP: WRITTEN OUT: LEAVE IT -/
set_option maxRecDepth 100000 in
theorem lifted (os : Os) (started : os.Started) (H : Type) (enc : TypeId × Value → H) :
    ReturnsInHanded {} Try.checked os 4 .any (Rows.fnMatchesUpperBlindToCaseOfSSpec.pre6 enc Try.prog Try.f4 Rows.fnMatchesUpperBlindToCaseOfSRow.domain false) (Rows.fnMatchesUpperBlindToCaseOfSSpec.post enc Try.prog Try.f4 false true false false) := by
  refine returnsInHanded_of_change (C := Try.checked) own started (by kernel_rfl) Try.func4
    (ChangeSpec.witness6 (enc := enc) (C := Try.checked) false ⟨#[], #[.string ByteArray.empty, .string ByteArray.empty, .int .i64 0], []⟩ 8 (by kernel_rfl) (by kernel_rfl) (by kernel_rfl) (by kernel_rfl)) ?_
  intro W base args ds gs before hval0 hW hcnd _
  have hval : ∀ (j : Nat) t v, Try.f4.params[j]? = some t → args[j]? = some v → Value.okWide Try.prog W .any base t v := hval0
  have hW' := hW
  obtain ⟨p, q, hA0, hV, rfl, hfz, hnd⟩ := hW
  have hA : DataW.TrodAll enc Try.prog W 0 (fun _ => true) true Try.f4.params.toList args.toList ds p := hA0
  rw [Try.params4] at hA hval
  obtain ⟨v0, vs0, d0, ds0, p0, q0, hargs, rfl, rfl, h0, r0⟩ := trodAll_cons hA
  obtain ⟨v1, vs1, d1, ds1, p1, q1, rfl, rfl, rfl, h1, r1⟩ := trodAll_cons r0
  obtain ⟨v2, vs2, d2, ds2, p2, q2, rfl, rfl, rfl, h2, r2⟩ := trodAll_cons r1
  obtain ⟨rfl, rfl, rfl⟩ := trodAll_nil r2
  obtain rfl : args = #[v0, v1, v2] := by cases args; simp_all
  obtain ⟨rfl, rfl⟩ := trodVars_none hV
  obtain ⟨a0, rfl, rfl, rfl, w0⟩ := open_string Try.underlying9 (hval 0 9 v0 rfl rfl) h0
  obtain ⟨a1, rfl, rfl, rfl, w1⟩ := open_string Try.underlying9 (hval 1 9 v1 rfl rfl) h1
  obtain ⟨a2, rfl, rfl, rfl, w2⟩ := open_int Try.underlying3 (hval 2 3 v2 rfl rfl) h2
  clear hA0 hval0
  simp only [List.append_nil] at hW'
  refine (walk a0 a1 a2 w0 w1 W).mono fun e W' ⟨he, bel⟩ => ?_
  subst he
  exact ⟨_, rfl, _, _, _, [], _, [], hW', trodAll_mk1 (shut_bool Try.underlying4 _), (trodAll_cons_mk (shut_string Try.underlying9 w0) (trodAll_cons_mk (shut_string Try.underlying9 w1) (trodAll_cons_mk (shut_int Try.underlying3 w2) trodAll_mk0))), rfl, bel.frame _, fun h => by cases h⟩

theorem over : Rows.fnMatchesUpperBlindToCaseOfSRow.holds Try.pinned (OpenSpec.ofChange Rows.fnMatchesUpperBlindToCaseOfSSpec) :=
  OpenClaim.holds_of_wide 4 Try.f4 rfl rfl rfl rfl rfl rfl rfl ⟨rfl, rfl, rfl, rfl, rfl⟩ rfl rfl rfl rfl rfl (by kernel_rfl) Try.func4 (by kernel_rfl)
    (of_decide_eq_true (by kernel_rfl)) (by unfold Func.isWrapper; first | (rw [if_pos (by decide +kernel)]; kernel_rfl) | (rw [if_neg (by decide +kernel)]; exact ⟨rfl, rfl⟩))
    (fun os started H enc _ => lifted os started H enc)

/-- ████ THE STATEMENT ████ -/
theorem proved : Rows.FnMatchesUpperBlindToCaseOfSSaid :=
  over
#print axioms proved
end Go.Proofs.Qxb6630014a.fnMatchesUpperBlindToCaseOfS
