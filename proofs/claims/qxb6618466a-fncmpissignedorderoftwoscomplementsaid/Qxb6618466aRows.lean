/-
  No cell of these rows narrows 'for every input' (looked for: loops, veiled, ifaces, maps, wideKeys, modest, calm, conditions, laid).
  DERIVED. THE GIVEN ROWS OF THIS SEAT. 2 by the template 'for every input the law returns true; each argument reads behind the call as it read before'; 0 by the template 'total and deterministic' (their statements: Qxb6618466aTotals.lean).
  GIVEN WITH THE SEED: the statements are not yours to turn. If you find one false, say at which input.
  Laid BY PROGRAM, IN A SANDBOX (cutbox-rows.mjs): the forced cells as the released guide's own fill.sh prints them over the translation 711f5fae5b15a598… (all of the seat's roots in one cut). By AI agents, Wed Nov 11 2026. No macro, syntax, notation, axiom, sorry.
-/
import Derived.Test.Qxb6618466aChecked
import GoSem.Claim
import GoSem.ClaimJoined
import GoSem.ClaimMapViews
import Derived.JoinedTies
import Derived.KernelRfl
namespace Go.Proofs.Qxb6618466a
/- THE CELL 'sum', in the pinned program and in every row, IS THE sha256 OF THE DUMP (.gsa) THAT Qxb6618466aProg.lean LOADS. Nothing in Lean hashes anything: it is a label: what it is worth is what the hold of that sum in a sandbox is worth. -/
noncomputable def Try.pinned : Pinned := { name := "qxb6618466a", sum := "711f5fae5b15a5981aad94042923d7dd73f1980ad2f392f9ca34bcec37559956", checked := Try.checked }
namespace Rows
def none {H : Type} : Left H := { results := [], args := [] }

/-- 'zzlaws_root_b1.FnCmpIsSignedOrderOfTwosComplement': WHATEVER THE INPUT: true; the input reads as it did. -/
def fnCmpIsSignedOrderOfTwosComplementSpec : ChangeSpec := { name := "fnCmpIsSignedOrderOfTwosComplement", fn := fun _ => fun
  | [d1, d2, d3, d4] => { results := [.lit (.bool true)], args := [d1, d2, d3, d4] }
  | _ => none }
def fnCmpIsSignedOrderOfTwosComplementRow : OpenClaim := { program := "qxb6618466a", sum := "711f5fae5b15a5981aad94042923d7dd73f1980ad2f392f9ca34bcec37559956", func := "example.com/ballast/ballast/zzlaws_root_b1.FnCmpIsSignedOrderOfTwosComplement", spec := "fnCmpIsSignedOrderOfTwosComplement", apart := false }
def FnCmpIsSignedOrderOfTwosComplementSaid : Prop := fnCmpIsSignedOrderOfTwosComplementRow.holds Try.pinned (OpenSpec.ofChange fnCmpIsSignedOrderOfTwosComplementSpec)

/-- ITS FALSE NEIGHBOUR: 'it returns false'. Refute it at one input. -/
def fnCmpIsSignedOrderOfTwosComplementWrong : ChangeSpec := { name := "fnCmpIsSignedOrderOfTwosComplement", fn := fun _ => fun
  | [d1, d2, d3, d4] => { results := [.lit (.bool false)], args := [d1, d2, d3, d4] }
  | _ => none }
def FnCmpIsSignedOrderOfTwosComplementWrongFalsely : Prop := fnCmpIsSignedOrderOfTwosComplementRow.holds Try.pinned (OpenSpec.ofChange fnCmpIsSignedOrderOfTwosComplementWrong)

/-- 'zzlaws_root_b1.FnCmpOrdersSuccessor': WHATEVER THE INPUT: true; the input reads as it did. -/
def fnCmpOrdersSuccessorSpec : ChangeSpec := { name := "fnCmpOrdersSuccessor", fn := fun _ => fun
  | [d1, d2] => { results := [.lit (.bool true)], args := [d1, d2] }
  | _ => none }
def fnCmpOrdersSuccessorRow : OpenClaim := { program := "qxb6618466a", sum := "711f5fae5b15a5981aad94042923d7dd73f1980ad2f392f9ca34bcec37559956", func := "example.com/ballast/ballast/zzlaws_root_b1.FnCmpOrdersSuccessor", spec := "fnCmpOrdersSuccessor", apart := false }
def FnCmpOrdersSuccessorSaid : Prop := fnCmpOrdersSuccessorRow.holds Try.pinned (OpenSpec.ofChange fnCmpOrdersSuccessorSpec)

/-- ITS FALSE NEIGHBOUR: 'it returns false'. Refute it at one input. -/
def fnCmpOrdersSuccessorWrong : ChangeSpec := { name := "fnCmpOrdersSuccessor", fn := fun _ => fun
  | [d1, d2] => { results := [.lit (.bool false)], args := [d1, d2] }
  | _ => none }
def FnCmpOrdersSuccessorWrongFalsely : Prop := fnCmpOrdersSuccessorRow.holds Try.pinned (OpenSpec.ofChange fnCmpOrdersSuccessorWrong)

end Rows
end Go.Proofs.Qxb6618466a
