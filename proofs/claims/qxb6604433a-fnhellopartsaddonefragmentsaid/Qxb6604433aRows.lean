/-
  No cell of these rows narrows 'for every input' (looked for: loops, veiled, ifaces, maps, wideKeys, modest, calm, conditions, laid).
  DERIVED. THE GIVEN ROWS OF THIS SEAT. 7 by the template 'for every input the law returns true; each argument reads behind the call as it read before'; 0 by the template 'total and deterministic' (their statements: Qxb6604433aTotals.lean).
  GIVEN WITH THE SEED: the statements are not yours to turn. If you find one false, say at which input.
  Laid BY PROGRAM, IN A SANDBOX (cutbox-rows.mjs): the forced cells as the released guide's own fill.sh prints them over the translation cbe0c66c60c89bc7… (all of the seat's roots in one cut). By AI agents, Wed Nov 11 2026. No macro, syntax, notation, axiom, sorry.
-/
import Derived.Test.Qxb6604433aChecked
import GoSem.Claim
import GoSem.ClaimJoined
import GoSem.ClaimMapViews
import Derived.JoinedTies
import Derived.KernelRfl
namespace Go.Proofs.Qxb6604433a
/- THE CELL 'sum', in the pinned program and in every row, IS THE sha256 OF THE DUMP (.gsa) THAT Qxb6604433aProg.lean LOADS. Nothing in Lean hashes anything: it is a label: what it is worth is what the hold of that sum in a sandbox is worth. -/
noncomputable def Try.pinned : Pinned := { name := "qxb6604433a", sum := "cbe0c66c60c89bc779dd6418cee173be1dd8fee7fecc9cf1b8aec975c837975e", checked := Try.checked }
namespace Rows
def none {H : Type} : Left H := { results := [], args := [] }

/-- 'zzlaws_root_b1.FnAppendVec24ReadsBack': WHATEVER THE INPUT: true; the input reads as it did. -/
def fnAppendVec24ReadsBackSpec : ChangeSpec := { name := "fnAppendVec24ReadsBack", fn := fun _ => fun
  | [d1, d2] => { results := [.lit (.bool true)], args := [d1, d2] }
  | _ => none }
def fnAppendVec24ReadsBackRow : OpenClaim := { program := "qxb6604433a", sum := "cbe0c66c60c89bc779dd6418cee173be1dd8fee7fecc9cf1b8aec975c837975e", func := "example.com/pathproof/pathproof/zzlaws_root_b1.FnAppendVec24ReadsBack", spec := "fnAppendVec24ReadsBack", apart := false }
def FnAppendVec24ReadsBackSaid : Prop := fnAppendVec24ReadsBackRow.holds Try.pinned (OpenSpec.ofChange fnAppendVec24ReadsBackSpec)

/-- ITS FALSE NEIGHBOUR: 'it returns false'. Refute it at one input. -/
def fnAppendVec24ReadsBackWrong : ChangeSpec := { name := "fnAppendVec24ReadsBack", fn := fun _ => fun
  | [d1, d2] => { results := [.lit (.bool false)], args := [d1, d2] }
  | _ => none }
def FnAppendVec24ReadsBackWrongFalsely : Prop := fnAppendVec24ReadsBackRow.holds Try.pinned (OpenSpec.ofChange fnAppendVec24ReadsBackWrong)

/-- 'zzlaws_root_b1.FnAppendVec24TwoVectorsSplitBack': WHATEVER THE INPUT: true; the input reads as it did. -/
def fnAppendVec24TwoVectorsSplitBackSpec : ChangeSpec := { name := "fnAppendVec24TwoVectorsSplitBack", fn := fun _ => fun
  | [d1, d2] => { results := [.lit (.bool true)], args := [d1, d2] }
  | _ => none }
def fnAppendVec24TwoVectorsSplitBackRow : OpenClaim := { program := "qxb6604433a", sum := "cbe0c66c60c89bc779dd6418cee173be1dd8fee7fecc9cf1b8aec975c837975e", func := "example.com/pathproof/pathproof/zzlaws_root_b1.FnAppendVec24TwoVectorsSplitBack", spec := "fnAppendVec24TwoVectorsSplitBack", apart := false }
def FnAppendVec24TwoVectorsSplitBackSaid : Prop := fnAppendVec24TwoVectorsSplitBackRow.holds Try.pinned (OpenSpec.ofChange fnAppendVec24TwoVectorsSplitBackSpec)

/-- ITS FALSE NEIGHBOUR: 'it returns false'. Refute it at one input. -/
def fnAppendVec24TwoVectorsSplitBackWrong : ChangeSpec := { name := "fnAppendVec24TwoVectorsSplitBack", fn := fun _ => fun
  | [d1, d2] => { results := [.lit (.bool false)], args := [d1, d2] }
  | _ => none }
def FnAppendVec24TwoVectorsSplitBackWrongFalsely : Prop := fnAppendVec24TwoVectorsSplitBackRow.holds Try.pinned (OpenSpec.ofChange fnAppendVec24TwoVectorsSplitBackWrong)

/-- 'zzlaws_root_b1.FnHelloPartsAddOneFragment': WHATEVER THE INPUT: true; the input reads as it did. -/
def fnHelloPartsAddOneFragmentSpec : ChangeSpec := { name := "fnHelloPartsAddOneFragment", fn := fun _ => fun
  | [d1, d2, d3, d4, d5, d6, d7] => { results := [.lit (.bool true)], args := [d1, d2, d3, d4, d5, d6, d7] }
  | _ => none }
def fnHelloPartsAddOneFragmentRow : OpenClaim := { program := "qxb6604433a", sum := "cbe0c66c60c89bc779dd6418cee173be1dd8fee7fecc9cf1b8aec975c837975e", func := "example.com/pathproof/pathproof/zzlaws_root_b1.FnHelloPartsAddOneFragment", spec := "fnHelloPartsAddOneFragment", unfollowed := true, recurses := true, named := ["encoding/binary.BigEndian"], apart := false }
def FnHelloPartsAddOneFragmentSaid : Prop := fnHelloPartsAddOneFragmentRow.holds Try.pinned (OpenSpec.ofChange fnHelloPartsAddOneFragmentSpec)

/-- ITS FALSE NEIGHBOUR: 'it returns false'. Refute it at one input. -/
def fnHelloPartsAddOneFragmentWrong : ChangeSpec := { name := "fnHelloPartsAddOneFragment", fn := fun _ => fun
  | [d1, d2, d3, d4, d5, d6, d7] => { results := [.lit (.bool false)], args := [d1, d2, d3, d4, d5, d6, d7] }
  | _ => none }
def FnHelloPartsAddOneFragmentWrongFalsely : Prop := fnHelloPartsAddOneFragmentRow.holds Try.pinned (OpenSpec.ofChange fnHelloPartsAddOneFragmentWrong)

/-- 'zzlaws_root_b1.FnHelloPartsAddTwoFragments': WHATEVER THE INPUT: true; the input reads as it did. -/
def fnHelloPartsAddTwoFragmentsSpec : ChangeSpec := { name := "fnHelloPartsAddTwoFragments", fn := fun _ => fun
  | [d1, d2, d3, d4, d5, d6, d7, d8] => { results := [.lit (.bool true)], args := [d1, d2, d3, d4, d5, d6, d7, d8] }
  | _ => none }
def fnHelloPartsAddTwoFragmentsRow : OpenClaim := { program := "qxb6604433a", sum := "cbe0c66c60c89bc779dd6418cee173be1dd8fee7fecc9cf1b8aec975c837975e", func := "example.com/pathproof/pathproof/zzlaws_root_b1.FnHelloPartsAddTwoFragments", spec := "fnHelloPartsAddTwoFragments", unfollowed := true, recurses := true, named := ["encoding/binary.BigEndian"], apart := false }
def FnHelloPartsAddTwoFragmentsSaid : Prop := fnHelloPartsAddTwoFragmentsRow.holds Try.pinned (OpenSpec.ofChange fnHelloPartsAddTwoFragmentsSpec)

/-- ITS FALSE NEIGHBOUR: 'it returns false'. Refute it at one input. -/
def fnHelloPartsAddTwoFragmentsWrong : ChangeSpec := { name := "fnHelloPartsAddTwoFragments", fn := fun _ => fun
  | [d1, d2, d3, d4, d5, d6, d7, d8] => { results := [.lit (.bool false)], args := [d1, d2, d3, d4, d5, d6, d7, d8] }
  | _ => none }
def FnHelloPartsAddTwoFragmentsWrongFalsely : Prop := fnHelloPartsAddTwoFragmentsRow.holds Try.pinned (OpenSpec.ofChange fnHelloPartsAddTwoFragmentsWrong)

/-- 'zzlaws_root_b1.FnHandshakeHoldOneFragment': WHATEVER THE INPUT: true; the input reads as it did. -/
def fnHandshakeHoldOneFragmentSpec : ChangeSpec := { name := "fnHandshakeHoldOneFragment", fn := fun _ => fun
  | [d1, d2, d3, d4, d5, d6] => { results := [.lit (.bool true)], args := [d1, d2, d3, d4, d5, d6] }
  | _ => none }
def fnHandshakeHoldOneFragmentRow : OpenClaim := { program := "qxb6604433a", sum := "cbe0c66c60c89bc779dd6418cee173be1dd8fee7fecc9cf1b8aec975c837975e", func := "example.com/pathproof/pathproof/zzlaws_root_b1.FnHandshakeHoldOneFragment", spec := "fnHandshakeHoldOneFragment", named := ["encoding/binary.BigEndian"], apart := false }
def FnHandshakeHoldOneFragmentSaid : Prop := fnHandshakeHoldOneFragmentRow.holds Try.pinned (OpenSpec.ofChange fnHandshakeHoldOneFragmentSpec)

/-- ITS FALSE NEIGHBOUR: 'it returns false'. Refute it at one input. -/
def fnHandshakeHoldOneFragmentWrong : ChangeSpec := { name := "fnHandshakeHoldOneFragment", fn := fun _ => fun
  | [d1, d2, d3, d4, d5, d6] => { results := [.lit (.bool false)], args := [d1, d2, d3, d4, d5, d6] }
  | _ => none }
def FnHandshakeHoldOneFragmentWrongFalsely : Prop := fnHandshakeHoldOneFragmentRow.holds Try.pinned (OpenSpec.ofChange fnHandshakeHoldOneFragmentWrong)

/-- 'zzlaws_root_b1.FnHandshakeHoldLaterStands': WHATEVER THE INPUT: true; the input reads as it did. -/
def fnHandshakeHoldLaterStandsSpec : ChangeSpec := { name := "fnHandshakeHoldLaterStands", fn := fun _ => fun
  | [d1, d2, d3, d4, d5, d6] => { results := [.lit (.bool true)], args := [d1, d2, d3, d4, d5, d6] }
  | _ => none }
def fnHandshakeHoldLaterStandsRow : OpenClaim := { program := "qxb6604433a", sum := "cbe0c66c60c89bc779dd6418cee173be1dd8fee7fecc9cf1b8aec975c837975e", func := "example.com/pathproof/pathproof/zzlaws_root_b1.FnHandshakeHoldLaterStands", spec := "fnHandshakeHoldLaterStands", named := ["encoding/binary.BigEndian"], apart := false }
def FnHandshakeHoldLaterStandsSaid : Prop := fnHandshakeHoldLaterStandsRow.holds Try.pinned (OpenSpec.ofChange fnHandshakeHoldLaterStandsSpec)

/-- ITS FALSE NEIGHBOUR: 'it returns false'. Refute it at one input. -/
def fnHandshakeHoldLaterStandsWrong : ChangeSpec := { name := "fnHandshakeHoldLaterStands", fn := fun _ => fun
  | [d1, d2, d3, d4, d5, d6] => { results := [.lit (.bool false)], args := [d1, d2, d3, d4, d5, d6] }
  | _ => none }
def FnHandshakeHoldLaterStandsWrongFalsely : Prop := fnHandshakeHoldLaterStandsRow.holds Try.pinned (OpenSpec.ofChange fnHandshakeHoldLaterStandsWrong)

/-- 'zzlaws_root_b1.FnEcdheServerExtensionsOnlyTypesMatter': WHATEVER THE INPUT: true; the input reads as it did. -/
def fnEcdheServerExtensionsOnlyTypesMatterSpec : ChangeSpec := { name := "fnEcdheServerExtensionsOnlyTypesMatter", fn := fun _ => fun
  | [d1, d2, d3, d4, d5, d6, d7, d8] => { results := [.lit (.bool true)], args := [d1, d2, d3, d4, d5, d6, d7, d8] }
  | _ => none }
def fnEcdheServerExtensionsOnlyTypesMatterRow : OpenClaim := { program := "qxb6604433a", sum := "cbe0c66c60c89bc779dd6418cee173be1dd8fee7fecc9cf1b8aec975c837975e", func := "example.com/pathproof/pathproof/zzlaws_root_b1.FnEcdheServerExtensionsOnlyTypesMatter", spec := "fnEcdheServerExtensionsOnlyTypesMatter", apart := false }
def FnEcdheServerExtensionsOnlyTypesMatterSaid : Prop := fnEcdheServerExtensionsOnlyTypesMatterRow.holds Try.pinned (OpenSpec.ofChange fnEcdheServerExtensionsOnlyTypesMatterSpec)

/-- ITS FALSE NEIGHBOUR: 'it returns false'. Refute it at one input. -/
def fnEcdheServerExtensionsOnlyTypesMatterWrong : ChangeSpec := { name := "fnEcdheServerExtensionsOnlyTypesMatter", fn := fun _ => fun
  | [d1, d2, d3, d4, d5, d6, d7, d8] => { results := [.lit (.bool false)], args := [d1, d2, d3, d4, d5, d6, d7, d8] }
  | _ => none }
def FnEcdheServerExtensionsOnlyTypesMatterWrongFalsely : Prop := fnEcdheServerExtensionsOnlyTypesMatterRow.holds Try.pinned (OpenSpec.ofChange fnEcdheServerExtensionsOnlyTypesMatterWrong)

end Rows
end Go.Proofs.Qxb6604433a
