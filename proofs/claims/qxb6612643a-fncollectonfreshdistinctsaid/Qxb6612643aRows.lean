/-
  No cell of these rows narrows 'for every input' (looked for: loops, veiled, ifaces, maps, wideKeys, modest, calm, conditions, laid).
  DERIVED. THE GIVEN ROWS OF THIS SEAT. 2 by the template 'for every input the law returns true; each argument reads behind the call as it read before'; 0 by the template 'total and deterministic' (their statements: Qxb6612643aTotals.lean).
  GIVEN WITH THE SEED: the statements are not yours to turn. If you find one false, say at which input.
  Laid BY PROGRAM, IN A SANDBOX (cutbox-rows.mjs): the forced cells as the released guide's own fill.sh prints them over the translation 6afb8ddb1bfb1081… (all of the seat's roots in one cut). By AI agents, Wed Nov 11 2026. No macro, syntax, notation, axiom, sorry.
-/
import Derived.Test.Qxb6612643aChecked
import GoSem.Claim
import GoSem.ClaimJoined
import GoSem.ClaimMapViews
import Derived.JoinedTies
import Derived.KernelRfl
namespace Go.Proofs.Qxb6612643a
/- THE CELL 'sum', in the pinned program and in every row, IS THE sha256 OF THE DUMP (.gsa) THAT Qxb6612643aProg.lean LOADS. Nothing in Lean hashes anything: it is a label: what it is worth is what the hold of that sum in a sandbox is worth. -/
noncomputable def Try.pinned : Pinned := { name := "qxb6612643a", sum := "6afb8ddb1bfb1081bcac6f06e711ffcefaaa7252c25ec9b1f5dde0f4cd70237c", checked := Try.checked }
namespace Rows
def none {H : Type} : Left H := { results := [], args := [] }

/-- 'zzlaws_internal_text_b1.FnLaterSetsLaterModeAlone': WHATEVER THE INPUT: true; the input reads as it did. -/
def fnLaterSetsLaterModeAloneSpec : ChangeSpec := { name := "fnLaterSetsLaterModeAlone", fn := fun _ => fun
  | [d] => { results := [.lit (.bool true)], args := [d] }
  | _ => none }
def fnLaterSetsLaterModeAloneRow : OpenClaim := { program := "qxb6612643a", sum := "6afb8ddb1bfb1081bcac6f06e711ffcefaaa7252c25ec9b1f5dde0f4cd70237c", func := "example.com/datum/datum/zzlaws_internal_text_b1.FnLaterSetsLaterModeAlone", spec := "fnLaterSetsLaterModeAlone", plainKeys := false, apart := false }
def FnLaterSetsLaterModeAloneSaid : Prop := fnLaterSetsLaterModeAloneRow.holds Try.pinned (OpenSpec.ofChange fnLaterSetsLaterModeAloneSpec)

/-- ITS FALSE NEIGHBOUR: 'it returns false'. Refute it at one input. -/
def fnLaterSetsLaterModeAloneWrong : ChangeSpec := { name := "fnLaterSetsLaterModeAlone", fn := fun _ => fun
  | [d] => { results := [.lit (.bool false)], args := [d] }
  | _ => none }
def FnLaterSetsLaterModeAloneWrongFalsely : Prop := fnLaterSetsLaterModeAloneRow.holds Try.pinned (OpenSpec.ofChange fnLaterSetsLaterModeAloneWrong)

/-- 'zzlaws_internal_text_b1.FnCollectOnFreshDistinct': WHATEVER THE INPUT: true; the input reads as it did. -/
def fnCollectOnFreshDistinctSpec : ChangeSpec := { name := "fnCollectOnFreshDistinct", fn := fun _ => fun
  | [d] => { results := [.lit (.bool true)], args := [d] }
  | _ => none }
def fnCollectOnFreshDistinctRow : OpenClaim := { program := "qxb6612643a", sum := "6afb8ddb1bfb1081bcac6f06e711ffcefaaa7252c25ec9b1f5dde0f4cd70237c", func := "example.com/datum/datum/zzlaws_internal_text_b1.FnCollectOnFreshDistinct", spec := "fnCollectOnFreshDistinct", unfollowed := true, recurses := true, plainKeys := false, apart := false }
def FnCollectOnFreshDistinctSaid : Prop := fnCollectOnFreshDistinctRow.holds Try.pinned (OpenSpec.ofChange fnCollectOnFreshDistinctSpec)

/-- ITS FALSE NEIGHBOUR: 'it returns false'. Refute it at one input. -/
def fnCollectOnFreshDistinctWrong : ChangeSpec := { name := "fnCollectOnFreshDistinct", fn := fun _ => fun
  | [d] => { results := [.lit (.bool false)], args := [d] }
  | _ => none }
def FnCollectOnFreshDistinctWrongFalsely : Prop := fnCollectOnFreshDistinctRow.holds Try.pinned (OpenSpec.ofChange fnCollectOnFreshDistinctWrong)

end Rows
end Go.Proofs.Qxb6612643a
