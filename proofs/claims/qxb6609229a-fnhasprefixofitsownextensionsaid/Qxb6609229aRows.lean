/-
  No cell of these rows narrows 'for every input' (looked for: loops, veiled, ifaces, maps, wideKeys, modest, calm, conditions, laid).
  DERIVED. THE GIVEN ROWS OF THIS SEAT. 2 by the template 'for every input the law returns true; each argument reads behind the call as it read before'; 0 by the template 'total and deterministic' (their statements: Qxb6609229aTotals.lean).
  GIVEN WITH THE SEED: the statements are not yours to turn. If you find one false, say at which input.
  Laid BY PROGRAM, IN A SANDBOX (cutbox-rows.mjs): the forced cells as the released guide's own fill.sh prints them over the translation f3e149c72dd2593d… (all of the seat's roots in one cut). By AI agents, Wed Nov 11 2026. No macro, syntax, notation, axiom, sorry.
-/
import Derived.Test.Qxb6609229aChecked
import GoSem.Claim
import GoSem.ClaimJoined
import GoSem.ClaimMapViews
import Derived.JoinedTies
import Derived.KernelRfl
namespace Go.Proofs.Qxb6609229a
/- THE CELL 'sum', in the pinned program and in every row, IS THE sha256 OF THE DUMP (.gsa) THAT Qxb6609229aProg.lean LOADS. Nothing in Lean hashes anything: it is a label: what it is worth is what the hold of that sum in a sandbox is worth. -/
noncomputable def Try.pinned : Pinned := { name := "qxb6609229a", sum := "f3e149c72dd2593da4235c2c20cea87d069a4347eb676c5e18c390886f257e69", checked := Try.checked }
namespace Rows
def none {H : Type} : Left H := { results := [], args := [] }

/-- 'zzlaws_internal_eval_b1.FnHasPrefixOfItsOwnExtension': WHATEVER THE INPUT: true; the input reads as it did. -/
def fnHasPrefixOfItsOwnExtensionSpec : ChangeSpec := { name := "fnHasPrefixOfItsOwnExtension", fn := fun _ => fun
  | [d1, d2] => { results := [.lit (.bool true)], args := [d1, d2] }
  | _ => none }
def fnHasPrefixOfItsOwnExtensionRow : OpenClaim := { program := "qxb6609229a", sum := "f3e149c72dd2593da4235c2c20cea87d069a4347eb676c5e18c390886f257e69", func := "example.com/latticeworks/latticeworks/zzlaws_internal_eval_b1.FnHasPrefixOfItsOwnExtension", spec := "fnHasPrefixOfItsOwnExtension", plainKeys := false, apart := false }
def FnHasPrefixOfItsOwnExtensionSaid : Prop := fnHasPrefixOfItsOwnExtensionRow.holds Try.pinned (OpenSpec.ofChange fnHasPrefixOfItsOwnExtensionSpec)

/-- ITS FALSE NEIGHBOUR: 'it returns false'. Refute it at one input. -/
def fnHasPrefixOfItsOwnExtensionWrong : ChangeSpec := { name := "fnHasPrefixOfItsOwnExtension", fn := fun _ => fun
  | [d1, d2] => { results := [.lit (.bool false)], args := [d1, d2] }
  | _ => none }
def FnHasPrefixOfItsOwnExtensionWrongFalsely : Prop := fnHasPrefixOfItsOwnExtensionRow.holds Try.pinned (OpenSpec.ofChange fnHasPrefixOfItsOwnExtensionWrong)

/-- 'zzlaws_internal_eval_b1.FnDisjunctionKindsOfJoinedMembers': WHATEVER THE INPUT: true; the input reads as it did. -/
def fnDisjunctionKindsOfJoinedMembersSpec : ChangeSpec := { name := "fnDisjunctionKindsOfJoinedMembers", fn := fun _ => fun
  | [d1, d2] => { results := [.lit (.bool true)], args := [d1, d2] }
  | _ => none }
def fnDisjunctionKindsOfJoinedMembersRow : OpenClaim := { program := "qxb6609229a", sum := "f3e149c72dd2593da4235c2c20cea87d069a4347eb676c5e18c390886f257e69", func := "example.com/latticeworks/latticeworks/zzlaws_internal_eval_b1.FnDisjunctionKindsOfJoinedMembers", spec := "fnDisjunctionKindsOfJoinedMembers", unfollowed := true, recurses := true, plainKeys := false, apart := false }
def FnDisjunctionKindsOfJoinedMembersSaid : Prop := fnDisjunctionKindsOfJoinedMembersRow.holds Try.pinned (OpenSpec.ofChange fnDisjunctionKindsOfJoinedMembersSpec)

/-- ITS FALSE NEIGHBOUR: 'it returns false'. Refute it at one input. -/
def fnDisjunctionKindsOfJoinedMembersWrong : ChangeSpec := { name := "fnDisjunctionKindsOfJoinedMembers", fn := fun _ => fun
  | [d1, d2] => { results := [.lit (.bool false)], args := [d1, d2] }
  | _ => none }
def FnDisjunctionKindsOfJoinedMembersWrongFalsely : Prop := fnDisjunctionKindsOfJoinedMembersRow.holds Try.pinned (OpenSpec.ofChange fnDisjunctionKindsOfJoinedMembersWrong)

end Rows
end Go.Proofs.Qxb6609229a
