/-
  NARROWER THAN 'FOR EVERY INPUT', by the rows' own cells (each row's printed sentence says how): FnMatchLabelsSpecFresh: maps · FnMatchLabelsPutOne: maps.
  DERIVED. THE GIVEN ROWS OF THIS SEAT. 2 by the template 'for every input the law returns true; each argument reads behind the call as it read before'; 0 by the template 'total and deterministic' (their statements: Qxb6630063aTotals.lean).
  GIVEN WITH THE SEED: the statements are not yours to turn. If you find one false, say at which input.
  Laid BY PROGRAM, IN A SANDBOX (cutbox-rows.mjs): the forced cells as the released guide's own fill.sh prints them over the translation a3c02de740280a55… (all of the seat's roots in one cut). By AI agents, Wed Nov 11 2026. No macro, syntax, notation, axiom, sorry.
-/
import Derived.Test.Qxb6630063aChecked
import GoSem.Claim
import GoSem.ClaimJoined
import GoSem.ClaimMapViews
import Derived.JoinedTies
import Derived.KernelRfl
namespace Go.Proofs.Qxb6630063a
/- THE CELL 'sum', in the pinned program and in every row, IS THE sha256 OF THE DUMP (.gsa) THAT Qxb6630063aProg.lean LOADS. Nothing in Lean hashes anything: it is a label: what it is worth is what the hold of that sum in a sandbox is worth. -/
noncomputable def Try.pinned : Pinned := { name := "qxb6630063a", sum := "a3c02de740280a55e08b9adb3ed365ff447711b145bbce6354a316701c9f80bc", checked := Try.checked }
namespace Rows
def none {H : Type} : Left H := { results := [], args := [] }

/-- 'zzlaws_model_b1.FnMatchLabelsSpecFresh': WHATEVER THE INPUT: true; the input reads as it did. -/
def fnMatchLabelsSpecFreshSpec : ChangeSpec := { name := "fnMatchLabelsSpecFresh", fn := fun _ => fun
  | [d1, d2] => { results := [.lit (.bool true)], args := [d1, d2] }
  | _ => none }
def fnMatchLabelsSpecFreshRow : OpenClaim := { program := "qxb6630063a", sum := "a3c02de740280a55e08b9adb3ed365ff447711b145bbce6354a316701c9f80bc", func := "example.com/muster/muster/zzlaws_model_b1.FnMatchLabelsSpecFresh", spec := "fnMatchLabelsSpecFresh", maps := true, apart := false }
def FnMatchLabelsSpecFreshSaid : Prop := fnMatchLabelsSpecFreshRow.holds Try.pinned (OpenSpec.ofChange fnMatchLabelsSpecFreshSpec)

/-- ITS FALSE NEIGHBOUR: 'it returns false'. Refute it at one input. -/
def fnMatchLabelsSpecFreshWrong : ChangeSpec := { name := "fnMatchLabelsSpecFresh", fn := fun _ => fun
  | [d1, d2] => { results := [.lit (.bool false)], args := [d1, d2] }
  | _ => none }
def FnMatchLabelsSpecFreshWrongFalsely : Prop := fnMatchLabelsSpecFreshRow.holds Try.pinned (OpenSpec.ofChange fnMatchLabelsSpecFreshWrong)

/-- 'zzlaws_model_b1.FnMatchLabelsPutOne': WHATEVER THE INPUT: true; the input reads as it did. -/
def fnMatchLabelsPutOneSpec : ChangeSpec := { name := "fnMatchLabelsPutOne", fn := fun _ => fun
  | [d1, d2, d3, d4] => { results := [.lit (.bool true)], args := [d1, d2, d3, d4] }
  | _ => none }
def fnMatchLabelsPutOneRow : OpenClaim := { program := "qxb6630063a", sum := "a3c02de740280a55e08b9adb3ed365ff447711b145bbce6354a316701c9f80bc", func := "example.com/muster/muster/zzlaws_model_b1.FnMatchLabelsPutOne", spec := "fnMatchLabelsPutOne", inPlace := ["maps.clone"], maps := true, apart := false }
def FnMatchLabelsPutOneSaid : Prop := fnMatchLabelsPutOneRow.holds Try.pinned (OpenSpec.ofChange fnMatchLabelsPutOneSpec)

/-- ITS FALSE NEIGHBOUR: 'it returns false'. Refute it at one input. -/
def fnMatchLabelsPutOneWrong : ChangeSpec := { name := "fnMatchLabelsPutOne", fn := fun _ => fun
  | [d1, d2, d3, d4] => { results := [.lit (.bool false)], args := [d1, d2, d3, d4] }
  | _ => none }
def FnMatchLabelsPutOneWrongFalsely : Prop := fnMatchLabelsPutOneRow.holds Try.pinned (OpenSpec.ofChange fnMatchLabelsPutOneWrong)

end Rows
end Go.Proofs.Qxb6630063a
