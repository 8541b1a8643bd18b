/-
  No cell of these rows narrows 'for every input' (looked for: loops, veiled, ifaces, maps, wideKeys, modest, calm, conditions, laid).
  DERIVED. THE GIVEN ROWS OF THIS SEAT. 4 by the template 'for every input the law returns true; each argument reads behind the call as it read before'; 0 by the template 'total and deterministic' (their statements: Qxb6612653aTotals.lean).
  GIVEN WITH THE SEED: the statements are not yours to turn. If you find one false, say at which input.
  Laid BY PROGRAM, IN A SANDBOX (cutbox-rows.mjs): the forced cells as the released guide's own fill.sh prints them over the translation 3843472dff12a89a… (all of the seat's roots in one cut). By AI agents, Wed Nov 11 2026. No macro, syntax, notation, axiom, sorry.
-/
import Derived.Test.Qxb6612653aChecked
import GoSem.Claim
import GoSem.ClaimJoined
import GoSem.ClaimMapViews
import Derived.JoinedTies
import Derived.KernelRfl
namespace Go.Proofs.Qxb6612653a
/- THE CELL 'sum', in the pinned program and in every row, IS THE sha256 OF THE DUMP (.gsa) THAT Qxb6612653aProg.lean LOADS. Nothing in Lean hashes anything: it is a label: what it is worth is what the hold of that sum in a sandbox is worth. -/
noncomputable def Try.pinned : Pinned := { name := "qxb6612653a", sum := "3843472dff12a89a2fdca4d9b152f0d448d541d594f6f4f3094f3932ab8d56bd", checked := Try.checked }
namespace Rows
def none {H : Type} : Left H := { results := [], args := [] }

/-- 'zzlaws_internal_placement_b1.FnInHandOfNewModeIsPassedSlot': WHATEVER THE INPUT: true; the input reads as it did. -/
def fnInHandOfNewModeIsPassedSlotSpec : ChangeSpec := { name := "fnInHandOfNewModeIsPassedSlot", fn := fun _ => fun
  | [d] => { results := [.lit (.bool true)], args := [d] }
  | _ => none }
def fnInHandOfNewModeIsPassedSlotRow : OpenClaim := { program := "qxb6612653a", sum := "3843472dff12a89a2fdca4d9b152f0d448d541d594f6f4f3094f3932ab8d56bd", func := "example.com/quoit/quoit/zzlaws_internal_placement_b1.FnInHandOfNewModeIsPassedSlot", spec := "fnInHandOfNewModeIsPassedSlot", apart := false }
def FnInHandOfNewModeIsPassedSlotSaid : Prop := fnInHandOfNewModeIsPassedSlotRow.holds Try.pinned (OpenSpec.ofChange fnInHandOfNewModeIsPassedSlotSpec)

/-- ITS FALSE NEIGHBOUR: 'it returns false'. Refute it at one input. -/
def fnInHandOfNewModeIsPassedSlotWrong : ChangeSpec := { name := "fnInHandOfNewModeIsPassedSlot", fn := fun _ => fun
  | [d] => { results := [.lit (.bool false)], args := [d] }
  | _ => none }
def FnInHandOfNewModeIsPassedSlotWrongFalsely : Prop := fnInHandOfNewModeIsPassedSlotRow.holds Try.pinned (OpenSpec.ofChange fnInHandOfNewModeIsPassedSlotWrong)

/-- 'zzlaws_internal_placement_b1.FnInHandSplitsEachModePair': WHATEVER THE INPUT: true; the input reads as it did. -/
def fnInHandSplitsEachModePairSpec : ChangeSpec := { name := "fnInHandSplitsEachModePair", fn := fun _ => fun
  | [d] => { results := [.lit (.bool true)], args := [d] }
  | _ => none }
def fnInHandSplitsEachModePairRow : OpenClaim := { program := "qxb6612653a", sum := "3843472dff12a89a2fdca4d9b152f0d448d541d594f6f4f3094f3932ab8d56bd", func := "example.com/quoit/quoit/zzlaws_internal_placement_b1.FnInHandSplitsEachModePair", spec := "fnInHandSplitsEachModePair", apart := false }
def FnInHandSplitsEachModePairSaid : Prop := fnInHandSplitsEachModePairRow.holds Try.pinned (OpenSpec.ofChange fnInHandSplitsEachModePairSpec)

/-- ITS FALSE NEIGHBOUR: 'it returns false'. Refute it at one input. -/
def fnInHandSplitsEachModePairWrong : ChangeSpec := { name := "fnInHandSplitsEachModePair", fn := fun _ => fun
  | [d] => { results := [.lit (.bool false)], args := [d] }
  | _ => none }
def FnInHandSplitsEachModePairWrongFalsely : Prop := fnInHandSplitsEachModePairRow.holds Try.pinned (OpenSpec.ofChange fnInHandSplitsEachModePairWrong)

/-- 'zzlaws_internal_placement_b1.FnHoldingAddsUpOverAnyRowCut': WHATEVER THE INPUT: true; the input reads as it did. -/
def fnHoldingAddsUpOverAnyRowCutSpec : ChangeSpec := { name := "fnHoldingAddsUpOverAnyRowCut", fn := fun _ => fun
  | [d1, d2, d3] => { results := [.lit (.bool true)], args := [d1, d2, d3] }
  | _ => none }
def fnHoldingAddsUpOverAnyRowCutRow : OpenClaim := { program := "qxb6612653a", sum := "3843472dff12a89a2fdca4d9b152f0d448d541d594f6f4f3094f3932ab8d56bd", func := "example.com/quoit/quoit/zzlaws_internal_placement_b1.FnHoldingAddsUpOverAnyRowCut", spec := "fnHoldingAddsUpOverAnyRowCut", unfollowed := true, recurses := true, apart := false }
def FnHoldingAddsUpOverAnyRowCutSaid : Prop := fnHoldingAddsUpOverAnyRowCutRow.holds Try.pinned (OpenSpec.ofChange fnHoldingAddsUpOverAnyRowCutSpec)

/-- ITS FALSE NEIGHBOUR: 'it returns false'. Refute it at one input. -/
def fnHoldingAddsUpOverAnyRowCutWrong : ChangeSpec := { name := "fnHoldingAddsUpOverAnyRowCut", fn := fun _ => fun
  | [d1, d2, d3] => { results := [.lit (.bool false)], args := [d1, d2, d3] }
  | _ => none }
def FnHoldingAddsUpOverAnyRowCutWrongFalsely : Prop := fnHoldingAddsUpOverAnyRowCutRow.holds Try.pinned (OpenSpec.ofChange fnHoldingAddsUpOverAnyRowCutWrong)

/-- 'zzlaws_internal_placement_b1.FnHoldingMovesOneCountWhereOneSlotIsPutIn': WHATEVER THE INPUT: true; the input reads as it did. -/
def fnHoldingMovesOneCountWhereOneSlotIsPutInSpec : ChangeSpec := { name := "fnHoldingMovesOneCountWhereOneSlotIsPutIn", fn := fun _ => fun
  | [d1, d2, d3, d4, d5] => { results := [.lit (.bool true)], args := [d1, d2, d3, d4, d5] }
  | _ => none }
def fnHoldingMovesOneCountWhereOneSlotIsPutInRow : OpenClaim := { program := "qxb6612653a", sum := "3843472dff12a89a2fdca4d9b152f0d448d541d594f6f4f3094f3932ab8d56bd", func := "example.com/quoit/quoit/zzlaws_internal_placement_b1.FnHoldingMovesOneCountWhereOneSlotIsPutIn", spec := "fnHoldingMovesOneCountWhereOneSlotIsPutIn", unfollowed := true, recurses := true, apart := false }
def FnHoldingMovesOneCountWhereOneSlotIsPutInSaid : Prop := fnHoldingMovesOneCountWhereOneSlotIsPutInRow.holds Try.pinned (OpenSpec.ofChange fnHoldingMovesOneCountWhereOneSlotIsPutInSpec)

/-- ITS FALSE NEIGHBOUR: 'it returns false'. Refute it at one input. -/
def fnHoldingMovesOneCountWhereOneSlotIsPutInWrong : ChangeSpec := { name := "fnHoldingMovesOneCountWhereOneSlotIsPutIn", fn := fun _ => fun
  | [d1, d2, d3, d4, d5] => { results := [.lit (.bool false)], args := [d1, d2, d3, d4, d5] }
  | _ => none }
def FnHoldingMovesOneCountWhereOneSlotIsPutInWrongFalsely : Prop := fnHoldingMovesOneCountWhereOneSlotIsPutInRow.holds Try.pinned (OpenSpec.ofChange fnHoldingMovesOneCountWhereOneSlotIsPutInWrong)

end Rows
end Go.Proofs.Qxb6612653a
