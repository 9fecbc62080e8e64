/-
  No cell of these rows narrows 'for every input' (looked for: loops, veiled, ifaces, maps, wideKeys, modest, calm, conditions, laid).
  DERIVED. THE GIVEN ROWS OF THIS SEAT. 3 by the template 'for every input the law returns true; each argument reads behind the call as it read before'; 0 by the template 'total and deterministic' (their statements: Qxb6604677aTotals.lean).
  GIVEN WITH THE SEED: the statements are not yours to turn. If you find one false, say at which input.
  Laid BY PROGRAM, IN A SANDBOX (cutbox-rows.mjs): the forced cells as the released guide's own fill.sh prints them over the translation e1cf2e76a70e4413… (all of the seat's roots in one cut). By AI agents, Wed Nov 11 2026. No macro, syntax, notation, axiom, sorry.
-/
import Derived.Test.Qxb6604677aChecked
import GoSem.Claim
import GoSem.ClaimJoined
import GoSem.ClaimMapViews
import Derived.JoinedTies
import Derived.KernelRfl
namespace Go.Proofs.Qxb6604677a
/- THE CELL 'sum', in the pinned program and in every row, IS THE sha256 OF THE DUMP (.gsa) THAT Qxb6604677aProg.lean LOADS. Nothing in Lean hashes anything: it is a label: what it is worth is what the hold of that sum in a sandbox is worth. -/
noncomputable def Try.pinned : Pinned := { name := "qxb6604677a", sum := "e1cf2e76a70e4413e8e10ba0e7fd1a7e364172dc72d9475789ac2da573d0a063", checked := Try.checked }
namespace Rows
def none {H : Type} : Left H := { results := [], args := [] }

/-- 'zzlaws_root_b1.FnSideDifferenceIsSign': WHATEVER THE INPUT: true; the input reads as it did. -/
def fnSideDifferenceIsSignSpec : ChangeSpec := { name := "fnSideDifferenceIsSign", fn := fun _ => fun
  | [d] => { results := [.lit (.bool true)], args := [d] }
  | _ => none }
def fnSideDifferenceIsSignRow : OpenClaim := { program := "qxb6604677a", sum := "e1cf2e76a70e4413e8e10ba0e7fd1a7e364172dc72d9475789ac2da573d0a063", func := "example.com/setwise/setwise/zzlaws_root_b1.FnSideDifferenceIsSign", spec := "fnSideDifferenceIsSign", apart := false }
def FnSideDifferenceIsSignSaid : Prop := fnSideDifferenceIsSignRow.holds Try.pinned (OpenSpec.ofChange fnSideDifferenceIsSignSpec)

/-- ITS FALSE NEIGHBOUR: 'it returns false'. Refute it at one input. -/
def fnSideDifferenceIsSignWrong : ChangeSpec := { name := "fnSideDifferenceIsSign", fn := fun _ => fun
  | [d] => { results := [.lit (.bool false)], args := [d] }
  | _ => none }
def FnSideDifferenceIsSignWrongFalsely : Prop := fnSideDifferenceIsSignRow.holds Try.pinned (OpenSpec.ofChange fnSideDifferenceIsSignWrong)

/-- 'zzlaws_root_b1.FnSideIsTwoValuedMonotoneStepAtOne': WHATEVER THE INPUT: true; the input reads as it did. -/
def fnSideIsTwoValuedMonotoneStepAtOneSpec : ChangeSpec := { name := "fnSideIsTwoValuedMonotoneStepAtOne", fn := fun _ => fun
  | [d1, d2] => { results := [.lit (.bool true)], args := [d1, d2] }
  | _ => none }
def fnSideIsTwoValuedMonotoneStepAtOneRow : OpenClaim := { program := "qxb6604677a", sum := "e1cf2e76a70e4413e8e10ba0e7fd1a7e364172dc72d9475789ac2da573d0a063", func := "example.com/setwise/setwise/zzlaws_root_b1.FnSideIsTwoValuedMonotoneStepAtOne", spec := "fnSideIsTwoValuedMonotoneStepAtOne", apart := false }
def FnSideIsTwoValuedMonotoneStepAtOneSaid : Prop := fnSideIsTwoValuedMonotoneStepAtOneRow.holds Try.pinned (OpenSpec.ofChange fnSideIsTwoValuedMonotoneStepAtOneSpec)

/-- ITS FALSE NEIGHBOUR: 'it returns false'. Refute it at one input. -/
def fnSideIsTwoValuedMonotoneStepAtOneWrong : ChangeSpec := { name := "fnSideIsTwoValuedMonotoneStepAtOne", fn := fun _ => fun
  | [d1, d2] => { results := [.lit (.bool false)], args := [d1, d2] }
  | _ => none }
def FnSideIsTwoValuedMonotoneStepAtOneWrongFalsely : Prop := fnSideIsTwoValuedMonotoneStepAtOneRow.holds Try.pinned (OpenSpec.ofChange fnSideIsTwoValuedMonotoneStepAtOneWrong)

/-- 'zzlaws_root_b1.FnFilledCountAgreesWithWordTopBits': WHATEVER THE INPUT: true; the input reads as it did. -/
def fnFilledCountAgreesWithWordTopBitsSpec : ChangeSpec := { name := "fnFilledCountAgreesWithWordTopBits", fn := fun _ => fun
  | [d] => { results := [.lit (.bool true)], args := [d] }
  | _ => none }
def fnFilledCountAgreesWithWordTopBitsRow : OpenClaim := { program := "qxb6604677a", sum := "e1cf2e76a70e4413e8e10ba0e7fd1a7e364172dc72d9475789ac2da573d0a063", func := "example.com/setwise/setwise/zzlaws_root_b1.FnFilledCountAgreesWithWordTopBits", spec := "fnFilledCountAgreesWithWordTopBits", apart := false }
def FnFilledCountAgreesWithWordTopBitsSaid : Prop := fnFilledCountAgreesWithWordTopBitsRow.holds Try.pinned (OpenSpec.ofChange fnFilledCountAgreesWithWordTopBitsSpec)

/-- ITS FALSE NEIGHBOUR: 'it returns false'. Refute it at one input. -/
def fnFilledCountAgreesWithWordTopBitsWrong : ChangeSpec := { name := "fnFilledCountAgreesWithWordTopBits", fn := fun _ => fun
  | [d] => { results := [.lit (.bool false)], args := [d] }
  | _ => none }
def FnFilledCountAgreesWithWordTopBitsWrongFalsely : Prop := fnFilledCountAgreesWithWordTopBitsRow.holds Try.pinned (OpenSpec.ofChange fnFilledCountAgreesWithWordTopBitsWrong)

end Rows
end Go.Proofs.Qxb6604677a
