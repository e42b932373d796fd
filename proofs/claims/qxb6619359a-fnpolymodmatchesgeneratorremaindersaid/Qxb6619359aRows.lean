/-
  No cell of these rows narrows 'for every input' (looked for: loops, veiled, ifaces, maps, wideKeys, modest, calm, conditions, laid).
  DERIVED. THE GIVEN ROWS OF THIS SEAT. 6 by the template 'for every input the law returns true; each argument reads behind the call as it read before'; 0 by the template 'total and deterministic' (their statements: Qxb6619359aTotals.lean).
  GIVEN WITH THE SEED: the statements are not yours to turn. If you find one false, say at which input.
  Laid BY PROGRAM, IN A SANDBOX (cutbox-rows.mjs): the forced cells as the released guide's own fill.sh prints them over the translation 1fad7228425e86ab… (all of the seat's roots in one cut). By AI agents, Wed Nov 11 2026. No macro, syntax, notation, axiom, sorry.
-/
import Derived.Test.Qxb6619359aChecked
import GoSem.Claim
import GoSem.ClaimJoined
import GoSem.ClaimMapViews
import Derived.JoinedTies
import Derived.KernelRfl
namespace Go.Proofs.Qxb6619359a
/- THE CELL 'sum', in the pinned program and in every row, IS THE sha256 OF THE DUMP (.gsa) THAT Qxb6619359aProg.lean LOADS. Nothing in Lean hashes anything: it is a label: what it is worth is what the hold of that sum in a sandbox is worth. -/
noncomputable def Try.pinned : Pinned := { name := "qxb6619359a", sum := "1fad7228425e86ab1feb7573d2d2f76b38929642b22cbe78f750dea85f16c0ad", checked := Try.checked }
namespace Rows
def none {H : Type} : Left H := { results := [], args := [] }

/-- 'zzlaws_internal_address_b1.FnPolymodMatchesGeneratorRemainder': WHATEVER THE INPUT: true; the input reads as it did. -/
def fnPolymodMatchesGeneratorRemainderSpec : ChangeSpec := { name := "fnPolymodMatchesGeneratorRemainder", fn := fun _ => fun
  | [d1, d2] => { results := [.lit (.bool true)], args := [d1, d2] }
  | _ => none }
def fnPolymodMatchesGeneratorRemainderRow : OpenClaim := { program := "qxb6619359a", sum := "1fad7228425e86ab1feb7573d2d2f76b38929642b22cbe78f750dea85f16c0ad", func := "example.com/plenum/plenum/zzlaws_internal_address_b1.FnPolymodMatchesGeneratorRemainder", spec := "fnPolymodMatchesGeneratorRemainder", apart := false }
def FnPolymodMatchesGeneratorRemainderSaid : Prop := fnPolymodMatchesGeneratorRemainderRow.holds Try.pinned (OpenSpec.ofChange fnPolymodMatchesGeneratorRemainderSpec)

/-- ITS FALSE NEIGHBOUR: 'it returns false'. Refute it at one input. -/
def fnPolymodMatchesGeneratorRemainderWrong : ChangeSpec := { name := "fnPolymodMatchesGeneratorRemainder", fn := fun _ => fun
  | [d1, d2] => { results := [.lit (.bool false)], args := [d1, d2] }
  | _ => none }
def FnPolymodMatchesGeneratorRemainderWrongFalsely : Prop := fnPolymodMatchesGeneratorRemainderRow.holds Try.pinned (OpenSpec.ofChange fnPolymodMatchesGeneratorRemainderWrong)

/-- 'zzlaws_internal_address_b1.FnChecksumClosesPolymodToConstant': WHATEVER THE INPUT: true; the input reads as it did. -/
def fnChecksumClosesPolymodToConstantSpec : ChangeSpec := { name := "fnChecksumClosesPolymodToConstant", fn := fun _ => fun
  | [d1, d2, d3] => { results := [.lit (.bool true)], args := [d1, d2, d3] }
  | _ => none }
def fnChecksumClosesPolymodToConstantRow : OpenClaim := { program := "qxb6619359a", sum := "1fad7228425e86ab1feb7573d2d2f76b38929642b22cbe78f750dea85f16c0ad", func := "example.com/plenum/plenum/zzlaws_internal_address_b1.FnChecksumClosesPolymodToConstant", spec := "fnChecksumClosesPolymodToConstant", apart := false }
def FnChecksumClosesPolymodToConstantSaid : Prop := fnChecksumClosesPolymodToConstantRow.holds Try.pinned (OpenSpec.ofChange fnChecksumClosesPolymodToConstantSpec)

/-- ITS FALSE NEIGHBOUR: 'it returns false'. Refute it at one input. -/
def fnChecksumClosesPolymodToConstantWrong : ChangeSpec := { name := "fnChecksumClosesPolymodToConstant", fn := fun _ => fun
  | [d1, d2, d3] => { results := [.lit (.bool false)], args := [d1, d2, d3] }
  | _ => none }
def FnChecksumClosesPolymodToConstantWrongFalsely : Prop := fnChecksumClosesPolymodToConstantRow.holds Try.pinned (OpenSpec.ofChange fnChecksumClosesPolymodToConstantWrong)

/-- 'zzlaws_internal_address_b1.FnChecksumMovesWithAnyOneValue': WHATEVER THE INPUT: true; the input reads as it did. -/
def fnChecksumMovesWithAnyOneValueSpec : ChangeSpec := { name := "fnChecksumMovesWithAnyOneValue", fn := fun _ => fun
  | [d1, d2, d3, d4, d5] => { results := [.lit (.bool true)], args := [d1, d2, d3, d4, d5] }
  | _ => none }
def fnChecksumMovesWithAnyOneValueRow : OpenClaim := { program := "qxb6619359a", sum := "1fad7228425e86ab1feb7573d2d2f76b38929642b22cbe78f750dea85f16c0ad", func := "example.com/plenum/plenum/zzlaws_internal_address_b1.FnChecksumMovesWithAnyOneValue", spec := "fnChecksumMovesWithAnyOneValue", apart := false }
def FnChecksumMovesWithAnyOneValueSaid : Prop := fnChecksumMovesWithAnyOneValueRow.holds Try.pinned (OpenSpec.ofChange fnChecksumMovesWithAnyOneValueSpec)

/-- ITS FALSE NEIGHBOUR: 'it returns false'. Refute it at one input. -/
def fnChecksumMovesWithAnyOneValueWrong : ChangeSpec := { name := "fnChecksumMovesWithAnyOneValue", fn := fun _ => fun
  | [d1, d2, d3, d4, d5] => { results := [.lit (.bool false)], args := [d1, d2, d3, d4, d5] }
  | _ => none }
def FnChecksumMovesWithAnyOneValueWrongFalsely : Prop := fnChecksumMovesWithAnyOneValueRow.holds Try.pinned (OpenSpec.ofChange fnChecksumMovesWithAnyOneValueWrong)

/-- 'zzlaws_internal_address_b1.FnRegroupCutsTheBitStream': WHATEVER THE INPUT: true; the input reads as it did. -/
def fnRegroupCutsTheBitStreamSpec : ChangeSpec := { name := "fnRegroupCutsTheBitStream", fn := fun _ => fun
  | [d1, d2, d3] => { results := [.lit (.bool true)], args := [d1, d2, d3] }
  | _ => none }
def fnRegroupCutsTheBitStreamRow : OpenClaim := { program := "qxb6619359a", sum := "1fad7228425e86ab1feb7573d2d2f76b38929642b22cbe78f750dea85f16c0ad", func := "example.com/plenum/plenum/zzlaws_internal_address_b1.FnRegroupCutsTheBitStream", spec := "fnRegroupCutsTheBitStream", apart := false }
def FnRegroupCutsTheBitStreamSaid : Prop := fnRegroupCutsTheBitStreamRow.holds Try.pinned (OpenSpec.ofChange fnRegroupCutsTheBitStreamSpec)

/-- ITS FALSE NEIGHBOUR: 'it returns false'. Refute it at one input. -/
def fnRegroupCutsTheBitStreamWrong : ChangeSpec := { name := "fnRegroupCutsTheBitStream", fn := fun _ => fun
  | [d1, d2, d3] => { results := [.lit (.bool false)], args := [d1, d2, d3] }
  | _ => none }
def FnRegroupCutsTheBitStreamWrongFalsely : Prop := fnRegroupCutsTheBitStreamRow.holds Try.pinned (OpenSpec.ofChange fnRegroupCutsTheBitStreamWrong)

/-- 'zzlaws_internal_address_b1.FnPolymodDetectsEveryBurstOfSix': WHATEVER THE INPUT: true; the input reads as it did. -/
def fnPolymodDetectsEveryBurstOfSixSpec : ChangeSpec := { name := "fnPolymodDetectsEveryBurstOfSix", fn := fun _ => fun
  | [d1, d2, d3, d4] => { results := [.lit (.bool true)], args := [d1, d2, d3, d4] }
  | _ => none }
def fnPolymodDetectsEveryBurstOfSixRow : OpenClaim := { program := "qxb6619359a", sum := "1fad7228425e86ab1feb7573d2d2f76b38929642b22cbe78f750dea85f16c0ad", func := "example.com/plenum/plenum/zzlaws_internal_address_b1.FnPolymodDetectsEveryBurstOfSix", spec := "fnPolymodDetectsEveryBurstOfSix", apart := false }
def FnPolymodDetectsEveryBurstOfSixSaid : Prop := fnPolymodDetectsEveryBurstOfSixRow.holds Try.pinned (OpenSpec.ofChange fnPolymodDetectsEveryBurstOfSixSpec)

/-- ITS FALSE NEIGHBOUR: 'it returns false'. Refute it at one input. -/
def fnPolymodDetectsEveryBurstOfSixWrong : ChangeSpec := { name := "fnPolymodDetectsEveryBurstOfSix", fn := fun _ => fun
  | [d1, d2, d3, d4] => { results := [.lit (.bool false)], args := [d1, d2, d3, d4] }
  | _ => none }
def FnPolymodDetectsEveryBurstOfSixWrongFalsely : Prop := fnPolymodDetectsEveryBurstOfSixRow.holds Try.pinned (OpenSpec.ofChange fnPolymodDetectsEveryBurstOfSixWrong)

/-- 'zzlaws_internal_address_b1.FnRegroupThereAndBackAgain': WHATEVER THE INPUT: true; the input reads as it did. -/
def fnRegroupThereAndBackAgainSpec : ChangeSpec := { name := "fnRegroupThereAndBackAgain", fn := fun _ => fun
  | [d1, d2, d3] => { results := [.lit (.bool true)], args := [d1, d2, d3] }
  | _ => none }
def fnRegroupThereAndBackAgainRow : OpenClaim := { program := "qxb6619359a", sum := "1fad7228425e86ab1feb7573d2d2f76b38929642b22cbe78f750dea85f16c0ad", func := "example.com/plenum/plenum/zzlaws_internal_address_b1.FnRegroupThereAndBackAgain", spec := "fnRegroupThereAndBackAgain", apart := false }
def FnRegroupThereAndBackAgainSaid : Prop := fnRegroupThereAndBackAgainRow.holds Try.pinned (OpenSpec.ofChange fnRegroupThereAndBackAgainSpec)

/-- ITS FALSE NEIGHBOUR: 'it returns false'. Refute it at one input. -/
def fnRegroupThereAndBackAgainWrong : ChangeSpec := { name := "fnRegroupThereAndBackAgain", fn := fun _ => fun
  | [d1, d2, d3] => { results := [.lit (.bool false)], args := [d1, d2, d3] }
  | _ => none }
def FnRegroupThereAndBackAgainWrongFalsely : Prop := fnRegroupThereAndBackAgainRow.holds Try.pinned (OpenSpec.ofChange fnRegroupThereAndBackAgainWrong)

end Rows
end Go.Proofs.Qxb6619359a
