/-
  No cell of these rows narrows 'for every input' (looked for: loops, veiled, ifaces, maps, wideKeys, modest, calm, conditions, laid).
  DERIVED. THE GIVEN ROWS OF THIS SEAT. 2 by the template 'for every input the law returns true; each argument reads behind the call as it read before'; 0 by the template 'total and deterministic' (their statements: Qxb6630153aTotals.lean).
  GIVEN WITH THE SEED: the statements are not yours to turn. If you find one false, say at which input.
  Laid BY PROGRAM, IN A SANDBOX (cutbox-rows.mjs): the forced cells as the released guide's own fill.sh prints them over the translation 8f9888a370d2934b… (all of the seat's roots in one cut). By AI agents, Wed Nov 11 2026. No macro, syntax, notation, axiom, sorry.
-/
import Derived.Test.Qxb6630153aChecked
import GoSem.Claim
import GoSem.ClaimJoined
import GoSem.ClaimMapViews
import Derived.JoinedTies
import Derived.KernelRfl
namespace Go.Proofs.Qxb6630153a
/- THE CELL 'sum', in the pinned program and in every row, IS THE sha256 OF THE DUMP (.gsa) THAT Qxb6630153aProg.lean LOADS. Nothing in Lean hashes anything: it is a label: what it is worth is what the hold of that sum in a sandbox is worth. -/
noncomputable def Try.pinned : Pinned := { name := "qxb6630153a", sum := "8f9888a370d2934bafd4c8c520dfc5c75c07de2249bd028f0b46ea37a6bda0e8", checked := Try.checked }
namespace Rows
def none {H : Type} : Left H := { results := [], args := [] }

/-- 'zzlaws_internal_jsondoc_b1.FnAppendStringCanonicalRoundTrip': WHATEVER THE INPUT: true; the input reads as it did. -/
def fnAppendStringCanonicalRoundTripSpec : ChangeSpec := { name := "fnAppendStringCanonicalRoundTrip", fn := fun _ => fun
  | [d1, d2] => { results := [.lit (.bool true)], args := [d1, d2] }
  | _ => none }
def fnAppendStringCanonicalRoundTripRow : OpenClaim := { program := "qxb6630153a", sum := "8f9888a370d2934bafd4c8c520dfc5c75c07de2249bd028f0b46ea37a6bda0e8", func := "example.com/lawk/lawk/zzlaws_internal_jsondoc_b1.FnAppendStringCanonicalRoundTrip", spec := "fnAppendStringCanonicalRoundTrip", apart := false }
def FnAppendStringCanonicalRoundTripSaid : Prop := fnAppendStringCanonicalRoundTripRow.holds Try.pinned (OpenSpec.ofChange fnAppendStringCanonicalRoundTripSpec)

/-- ITS FALSE NEIGHBOUR: 'it returns false'. Refute it at one input. -/
def fnAppendStringCanonicalRoundTripWrong : ChangeSpec := { name := "fnAppendStringCanonicalRoundTrip", fn := fun _ => fun
  | [d1, d2] => { results := [.lit (.bool false)], args := [d1, d2] }
  | _ => none }
def FnAppendStringCanonicalRoundTripWrongFalsely : Prop := fnAppendStringCanonicalRoundTripRow.holds Try.pinned (OpenSpec.ofChange fnAppendStringCanonicalRoundTripWrong)

/-- 'zzlaws_internal_jsondoc_b1.FnAppendStringSplitsAtAnyCut': WHATEVER THE INPUT: true; the input reads as it did. -/
def fnAppendStringSplitsAtAnyCutSpec : ChangeSpec := { name := "fnAppendStringSplitsAtAnyCut", fn := fun _ => fun
  | [d1, d2, d3] => { results := [.lit (.bool true)], args := [d1, d2, d3] }
  | _ => none }
def fnAppendStringSplitsAtAnyCutRow : OpenClaim := { program := "qxb6630153a", sum := "8f9888a370d2934bafd4c8c520dfc5c75c07de2249bd028f0b46ea37a6bda0e8", func := "example.com/lawk/lawk/zzlaws_internal_jsondoc_b1.FnAppendStringSplitsAtAnyCut", spec := "fnAppendStringSplitsAtAnyCut", apart := false }
def FnAppendStringSplitsAtAnyCutSaid : Prop := fnAppendStringSplitsAtAnyCutRow.holds Try.pinned (OpenSpec.ofChange fnAppendStringSplitsAtAnyCutSpec)

/-- ITS FALSE NEIGHBOUR: 'it returns false'. Refute it at one input. -/
def fnAppendStringSplitsAtAnyCutWrong : ChangeSpec := { name := "fnAppendStringSplitsAtAnyCut", fn := fun _ => fun
  | [d1, d2, d3] => { results := [.lit (.bool false)], args := [d1, d2, d3] }
  | _ => none }
def FnAppendStringSplitsAtAnyCutWrongFalsely : Prop := fnAppendStringSplitsAtAnyCutRow.holds Try.pinned (OpenSpec.ofChange fnAppendStringSplitsAtAnyCutWrong)

end Rows
end Go.Proofs.Qxb6630153a
