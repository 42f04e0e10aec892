/-
  No cell of these rows narrows 'for every input' (looked for: loops, veiled, ifaces, maps, wideKeys, modest, calm, conditions, laid).
  DERIVED. THE GIVEN ROWS OF THIS SEAT. 2 by the template 'for every input the law returns true; each argument reads behind the call as it read before'; 0 by the template 'total and deterministic' (their statements: Qxb6630090aTotals.lean).
  GIVEN WITH THE SEED: the statements are not yours to turn. If you find one false, say at which input.
  Laid BY PROGRAM, IN A SANDBOX (cutbox-rows.mjs): the forced cells as the released guide's own fill.sh prints them over the translation bc9f451e072d6803… (all of the seat's roots in one cut). By AI agents, Wed Nov 11 2026. No macro, syntax, notation, axiom, sorry.
-/
import Derived.Test.Qxb6630090aChecked
import GoSem.Claim
import GoSem.ClaimJoined
import GoSem.ClaimMapViews
import Derived.JoinedTies
import Derived.KernelRfl
namespace Go.Proofs.Qxb6630090a
/- THE CELL 'sum', in the pinned program and in every row, IS THE sha256 OF THE DUMP (.gsa) THAT Qxb6630090aProg.lean LOADS. Nothing in Lean hashes anything: it is a label: what it is worth is what the hold of that sum in a sandbox is worth. -/
noncomputable def Try.pinned : Pinned := { name := "qxb6630090a", sum := "bc9f451e072d68037ad4b52098cf670b9cee2bef29065c45b7d75cb98577a930", checked := Try.checked }
namespace Rows
def none {H : Type} : Left H := { results := [], args := [] }

/-- 'zzlaws_pkg_money_b1.FnCmpAgreesWithBiasedUnsignedOrder': WHATEVER THE INPUT: true; the input reads as it did. -/
def fnCmpAgreesWithBiasedUnsignedOrderSpec : ChangeSpec := { name := "fnCmpAgreesWithBiasedUnsignedOrder", fn := fun _ => fun
  | [d1, d2] => { results := [.lit (.bool true)], args := [d1, d2] }
  | _ => none }
def fnCmpAgreesWithBiasedUnsignedOrderRow : OpenClaim := { program := "qxb6630090a", sum := "bc9f451e072d68037ad4b52098cf670b9cee2bef29065c45b7d75cb98577a930", func := "example.com/armslength/armslength/zzlaws_pkg_money_b1.FnCmpAgreesWithBiasedUnsignedOrder", spec := "fnCmpAgreesWithBiasedUnsignedOrder", apart := false }
def FnCmpAgreesWithBiasedUnsignedOrderSaid : Prop := fnCmpAgreesWithBiasedUnsignedOrderRow.holds Try.pinned (OpenSpec.ofChange fnCmpAgreesWithBiasedUnsignedOrderSpec)

/-- ITS FALSE NEIGHBOUR: 'it returns false'. Refute it at one input. -/
def fnCmpAgreesWithBiasedUnsignedOrderWrong : ChangeSpec := { name := "fnCmpAgreesWithBiasedUnsignedOrder", fn := fun _ => fun
  | [d1, d2] => { results := [.lit (.bool false)], args := [d1, d2] }
  | _ => none }
def FnCmpAgreesWithBiasedUnsignedOrderWrongFalsely : Prop := fnCmpAgreesWithBiasedUnsignedOrderRow.holds Try.pinned (OpenSpec.ofChange fnCmpAgreesWithBiasedUnsignedOrderWrong)

/-- 'zzlaws_pkg_money_b1.FnCmpStepOneFen': WHATEVER THE INPUT: true; the input reads as it did. -/
def fnCmpStepOneFenSpec : ChangeSpec := { name := "fnCmpStepOneFen", fn := fun _ => fun
  | [d1, d2] => { results := [.lit (.bool true)], args := [d1, d2] }
  | _ => none }
def fnCmpStepOneFenRow : OpenClaim := { program := "qxb6630090a", sum := "bc9f451e072d68037ad4b52098cf670b9cee2bef29065c45b7d75cb98577a930", func := "example.com/armslength/armslength/zzlaws_pkg_money_b1.FnCmpStepOneFen", spec := "fnCmpStepOneFen", apart := false }
def FnCmpStepOneFenSaid : Prop := fnCmpStepOneFenRow.holds Try.pinned (OpenSpec.ofChange fnCmpStepOneFenSpec)

/-- ITS FALSE NEIGHBOUR: 'it returns false'. Refute it at one input. -/
def fnCmpStepOneFenWrong : ChangeSpec := { name := "fnCmpStepOneFen", fn := fun _ => fun
  | [d1, d2] => { results := [.lit (.bool false)], args := [d1, d2] }
  | _ => none }
def FnCmpStepOneFenWrongFalsely : Prop := fnCmpStepOneFenRow.holds Try.pinned (OpenSpec.ofChange fnCmpStepOneFenWrong)

end Rows
end Go.Proofs.Qxb6630090a
