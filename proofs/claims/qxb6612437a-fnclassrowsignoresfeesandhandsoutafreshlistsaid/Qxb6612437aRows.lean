/-
  No cell of these rows narrows 'for every input' (looked for: loops, veiled, ifaces, maps, wideKeys, modest, calm, conditions, laid).
  DERIVED. THE GIVEN ROWS OF THIS SEAT. 2 by the template 'for every input the law returns true; each argument reads behind the call as it read before'; 0 by the template 'total and deterministic' (their statements: Qxb6612437aTotals.lean).
  GIVEN WITH THE SEED: the statements are not yours to turn. If you find one false, say at which input.
  Laid BY PROGRAM, IN A SANDBOX (cutbox-rows.mjs): the forced cells as the released guide's own fill.sh prints them over the translation 36facc41c8a6d931… (all of the seat's roots in one cut). By AI agents, Wed Nov 11 2026. No macro, syntax, notation, axiom, sorry.
-/
import Derived.Test.Qxb6612437aChecked
import GoSem.Claim
import GoSem.ClaimJoined
import GoSem.ClaimMapViews
import Derived.JoinedTies
import Derived.KernelRfl
namespace Go.Proofs.Qxb6612437a
/- THE CELL 'sum', in the pinned program and in every row, IS THE sha256 OF THE DUMP (.gsa) THAT Qxb6612437aProg.lean LOADS. Nothing in Lean hashes anything: it is a label: what it is worth is what the hold of that sum in a sandbox is worth. -/
noncomputable def Try.pinned : Pinned := { name := "qxb6612437a", sum := "36facc41c8a6d9316477f9b765389fead0b48d69bc5a9c1f66efe4a8b2c3e90c", checked := Try.checked }
namespace Rows
def none {H : Type} : Left H := { results := [], args := [] }

/-- 'zzlaws_internal_fund_b1.FnClassRowsNamesEveryClassInTermsOrder': WHATEVER THE INPUT: true; the input reads as it did. -/
def fnClassRowsNamesEveryClassInTermsOrderSpec : ChangeSpec := { name := "fnClassRowsNamesEveryClassInTermsOrder", fn := fun _ => fun
  | [d] => { results := [.lit (.bool true)], args := [d] }
  | _ => none }
def fnClassRowsNamesEveryClassInTermsOrderRow : OpenClaim := { program := "qxb6612437a", sum := "36facc41c8a6d9316477f9b765389fead0b48d69bc5a9c1f66efe4a8b2c3e90c", func := "example.com/tuoguan/tuoguan/zzlaws_internal_fund_b1.FnClassRowsNamesEveryClassInTermsOrder", spec := "fnClassRowsNamesEveryClassInTermsOrder", apart := false }
def FnClassRowsNamesEveryClassInTermsOrderSaid : Prop := fnClassRowsNamesEveryClassInTermsOrderRow.holds Try.pinned (OpenSpec.ofChange fnClassRowsNamesEveryClassInTermsOrderSpec)

/-- ITS FALSE NEIGHBOUR: 'it returns false'. Refute it at one input. -/
def fnClassRowsNamesEveryClassInTermsOrderWrong : ChangeSpec := { name := "fnClassRowsNamesEveryClassInTermsOrder", fn := fun _ => fun
  | [d] => { results := [.lit (.bool false)], args := [d] }
  | _ => none }
def FnClassRowsNamesEveryClassInTermsOrderWrongFalsely : Prop := fnClassRowsNamesEveryClassInTermsOrderRow.holds Try.pinned (OpenSpec.ofChange fnClassRowsNamesEveryClassInTermsOrderWrong)

/-- 'zzlaws_internal_fund_b1.FnClassRowsIgnoresFeesAndHandsOutAFreshList': WHATEVER THE INPUT: true; the input reads as it did. -/
def fnClassRowsIgnoresFeesAndHandsOutAFreshListSpec : ChangeSpec := { name := "fnClassRowsIgnoresFeesAndHandsOutAFreshList", fn := fun _ => fun
  | [d] => { results := [.lit (.bool true)], args := [d] }
  | _ => none }
def fnClassRowsIgnoresFeesAndHandsOutAFreshListRow : OpenClaim := { program := "qxb6612437a", sum := "36facc41c8a6d9316477f9b765389fead0b48d69bc5a9c1f66efe4a8b2c3e90c", func := "example.com/tuoguan/tuoguan/zzlaws_internal_fund_b1.FnClassRowsIgnoresFeesAndHandsOutAFreshList", spec := "fnClassRowsIgnoresFeesAndHandsOutAFreshList", apart := false }
def FnClassRowsIgnoresFeesAndHandsOutAFreshListSaid : Prop := fnClassRowsIgnoresFeesAndHandsOutAFreshListRow.holds Try.pinned (OpenSpec.ofChange fnClassRowsIgnoresFeesAndHandsOutAFreshListSpec)

/-- ITS FALSE NEIGHBOUR: 'it returns false'. Refute it at one input. -/
def fnClassRowsIgnoresFeesAndHandsOutAFreshListWrong : ChangeSpec := { name := "fnClassRowsIgnoresFeesAndHandsOutAFreshList", fn := fun _ => fun
  | [d] => { results := [.lit (.bool false)], args := [d] }
  | _ => none }
def FnClassRowsIgnoresFeesAndHandsOutAFreshListWrongFalsely : Prop := fnClassRowsIgnoresFeesAndHandsOutAFreshListRow.holds Try.pinned (OpenSpec.ofChange fnClassRowsIgnoresFeesAndHandsOutAFreshListWrong)

end Rows
end Go.Proofs.Qxb6612437a
