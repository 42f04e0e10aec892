/-
  No cell of these rows narrows 'for every input' (looked for: loops, veiled, ifaces, maps, wideKeys, modest, calm, conditions, laid).
  DERIVED. THE GIVEN ROWS OF THIS SEAT. 2 by the template 'for every input the law returns true; each argument reads behind the call as it read before'; 0 by the template 'total and deterministic' (their statements: Qxb6630014aTotals.lean).
  GIVEN WITH THE SEED: the statements are not yours to turn. If you find one false, say at which input.
  Laid BY PROGRAM, IN A SANDBOX (cutbox-rows.mjs): the forced cells as the released guide's own fill.sh prints them over the translation 91cbaeda264c2aa7… (all of the seat's roots in one cut). By AI agents, Wed Nov 11 2026. No macro, syntax, notation, axiom, sorry.
-/
import Derived.Test.Qxb6630014aChecked
import GoSem.Claim
import GoSem.ClaimJoined
import GoSem.ClaimMapViews
import Derived.JoinedTies
import Derived.KernelRfl
namespace Go.Proofs.Qxb6630014a
/- THE CELL 'sum', in the pinned program and in every row, IS THE sha256 OF THE DUMP (.gsa) THAT Qxb6630014aProg.lean LOADS. Nothing in Lean hashes anything: it is a label: what it is worth is what the hold of that sum in a sandbox is worth. -/
noncomputable def Try.pinned : Pinned := { name := "qxb6630014a", sum := "91cbaeda264c2aa7525b1df2e9667fe571d46147c64e9699259812f122a8437c", checked := Try.checked }
namespace Rows
def none {H : Type} : Left H := { results := [], args := [] }

/-- 'zzlaws_internal_ascii_b1.FnMatchesUpperAcceptsExactly': WHATEVER THE INPUT: true; the input reads as it did. -/
def fnMatchesUpperAcceptsExactlySpec : ChangeSpec := { name := "fnMatchesUpperAcceptsExactly", fn := fun _ => fun
  | [d1, d2] => { results := [.lit (.bool true)], args := [d1, d2] }
  | _ => none }
def fnMatchesUpperAcceptsExactlyRow : OpenClaim := { program := "qxb6630014a", sum := "91cbaeda264c2aa7525b1df2e9667fe571d46147c64e9699259812f122a8437c", func := "example.com/isolene/isolene/zzlaws_internal_ascii_b1.FnMatchesUpperAcceptsExactly", spec := "fnMatchesUpperAcceptsExactly", apart := false }
def FnMatchesUpperAcceptsExactlySaid : Prop := fnMatchesUpperAcceptsExactlyRow.holds Try.pinned (OpenSpec.ofChange fnMatchesUpperAcceptsExactlySpec)

/-- ITS FALSE NEIGHBOUR: 'it returns false'. Refute it at one input. -/
def fnMatchesUpperAcceptsExactlyWrong : ChangeSpec := { name := "fnMatchesUpperAcceptsExactly", fn := fun _ => fun
  | [d1, d2] => { results := [.lit (.bool false)], args := [d1, d2] }
  | _ => none }
def FnMatchesUpperAcceptsExactlyWrongFalsely : Prop := fnMatchesUpperAcceptsExactlyRow.holds Try.pinned (OpenSpec.ofChange fnMatchesUpperAcceptsExactlyWrong)

/-- 'zzlaws_internal_ascii_b1.FnMatchesUpperBlindToCaseOfS': WHATEVER THE INPUT: true; the input reads as it did. -/
def fnMatchesUpperBlindToCaseOfSSpec : ChangeSpec := { name := "fnMatchesUpperBlindToCaseOfS", fn := fun _ => fun
  | [d1, d2, d3] => { results := [.lit (.bool true)], args := [d1, d2, d3] }
  | _ => none }
def fnMatchesUpperBlindToCaseOfSRow : OpenClaim := { program := "qxb6630014a", sum := "91cbaeda264c2aa7525b1df2e9667fe571d46147c64e9699259812f122a8437c", func := "example.com/isolene/isolene/zzlaws_internal_ascii_b1.FnMatchesUpperBlindToCaseOfS", spec := "fnMatchesUpperBlindToCaseOfS", apart := false }
def FnMatchesUpperBlindToCaseOfSSaid : Prop := fnMatchesUpperBlindToCaseOfSRow.holds Try.pinned (OpenSpec.ofChange fnMatchesUpperBlindToCaseOfSSpec)

/-- ITS FALSE NEIGHBOUR: 'it returns false'. Refute it at one input. -/
def fnMatchesUpperBlindToCaseOfSWrong : ChangeSpec := { name := "fnMatchesUpperBlindToCaseOfS", fn := fun _ => fun
  | [d1, d2, d3] => { results := [.lit (.bool false)], args := [d1, d2, d3] }
  | _ => none }
def FnMatchesUpperBlindToCaseOfSWrongFalsely : Prop := fnMatchesUpperBlindToCaseOfSRow.holds Try.pinned (OpenSpec.ofChange fnMatchesUpperBlindToCaseOfSWrong)

end Rows
end Go.Proofs.Qxb6630014a
