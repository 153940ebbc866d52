/-
  No cell of these rows narrows 'for every input' (looked for: loops, veiled, ifaces, maps, wideKeys, modest, calm, conditions, laid).
  DERIVED. THE GIVEN ROWS OF THIS SEAT. 2 by the template 'for every input the law returns true; each argument reads behind the call as it read before'; 0 by the template 'total and deterministic' (their statements: Qxb6614448aTotals.lean).
  GIVEN WITH THE SEED: the statements are not yours to turn. If you find one false, say at which input.
  Laid BY PROGRAM, IN A SANDBOX (cutbox-rows.mjs): the forced cells as the released guide's own fill.sh prints them over the translation 954988b0eb98ca67… (all of the seat's roots in one cut). By AI agents, Wed Nov 11 2026. No macro, syntax, notation, axiom, sorry.
-/
import Derived.Test.Qxb6614448aChecked
import GoSem.Claim
import GoSem.ClaimJoined
import GoSem.ClaimMapViews
import Derived.JoinedTies
import Derived.KernelRfl
namespace Go.Proofs.Qxb6614448a
/- THE CELL 'sum', in the pinned program and in every row, IS THE sha256 OF THE DUMP (.gsa) THAT Qxb6614448aProg.lean LOADS. Nothing in Lean hashes anything: it is a label: what it is worth is what the hold of that sum in a sandbox is worth. -/
noncomputable def Try.pinned : Pinned := { name := "qxb6614448a", sum := "954988b0eb98ca670eb1140355404ee76352ffda6cce4f8a0a9d9122f6c4facc", checked := Try.checked }
namespace Rows
def none {H : Type} : Left H := { results := [], args := [] }

/-- 'zzlaws_internal_cluster_b1.FnHoldsCopyIsAnyPlaceOfTheNode': WHATEVER THE INPUT: true; the input reads as it did. -/
def fnHoldsCopyIsAnyPlaceOfTheNodeSpec : ChangeSpec := { name := "fnHoldsCopyIsAnyPlaceOfTheNode", fn := fun _ => fun
  | [d1, d2, d3, d4, d5] => { results := [.lit (.bool true)], args := [d1, d2, d3, d4, d5] }
  | _ => none }
def fnHoldsCopyIsAnyPlaceOfTheNodeRow : OpenClaim := { program := "qxb6614448a", sum := "954988b0eb98ca670eb1140355404ee76352ffda6cce4f8a0a9d9122f6c4facc", func := "example.com/tideline/tideline/zzlaws_internal_cluster_b1.FnHoldsCopyIsAnyPlaceOfTheNode", spec := "fnHoldsCopyIsAnyPlaceOfTheNode", apart := false }
def FnHoldsCopyIsAnyPlaceOfTheNodeSaid : Prop := fnHoldsCopyIsAnyPlaceOfTheNodeRow.holds Try.pinned (OpenSpec.ofChange fnHoldsCopyIsAnyPlaceOfTheNodeSpec)

/-- ITS FALSE NEIGHBOUR: 'it returns false'. Refute it at one input. -/
def fnHoldsCopyIsAnyPlaceOfTheNodeWrong : ChangeSpec := { name := "fnHoldsCopyIsAnyPlaceOfTheNode", fn := fun _ => fun
  | [d1, d2, d3, d4, d5] => { results := [.lit (.bool false)], args := [d1, d2, d3, d4, d5] }
  | _ => none }
def FnHoldsCopyIsAnyPlaceOfTheNodeWrongFalsely : Prop := fnHoldsCopyIsAnyPlaceOfTheNodeRow.holds Try.pinned (OpenSpec.ofChange fnHoldsCopyIsAnyPlaceOfTheNodeWrong)

/-- 'zzlaws_internal_cluster_b1.FnHoldsCopyRenamedNodeIsHeldNowhere': WHATEVER THE INPUT: true; the input reads as it did. -/
def fnHoldsCopyRenamedNodeIsHeldNowhereSpec : ChangeSpec := { name := "fnHoldsCopyRenamedNodeIsHeldNowhere", fn := fun _ => fun
  | [d1, d2, d3] => { results := [.lit (.bool true)], args := [d1, d2, d3] }
  | _ => none }
def fnHoldsCopyRenamedNodeIsHeldNowhereRow : OpenClaim := { program := "qxb6614448a", sum := "954988b0eb98ca670eb1140355404ee76352ffda6cce4f8a0a9d9122f6c4facc", func := "example.com/tideline/tideline/zzlaws_internal_cluster_b1.FnHoldsCopyRenamedNodeIsHeldNowhere", spec := "fnHoldsCopyRenamedNodeIsHeldNowhere", apart := false }
def FnHoldsCopyRenamedNodeIsHeldNowhereSaid : Prop := fnHoldsCopyRenamedNodeIsHeldNowhereRow.holds Try.pinned (OpenSpec.ofChange fnHoldsCopyRenamedNodeIsHeldNowhereSpec)

/-- ITS FALSE NEIGHBOUR: 'it returns false'. Refute it at one input. -/
def fnHoldsCopyRenamedNodeIsHeldNowhereWrong : ChangeSpec := { name := "fnHoldsCopyRenamedNodeIsHeldNowhere", fn := fun _ => fun
  | [d1, d2, d3] => { results := [.lit (.bool false)], args := [d1, d2, d3] }
  | _ => none }
def FnHoldsCopyRenamedNodeIsHeldNowhereWrongFalsely : Prop := fnHoldsCopyRenamedNodeIsHeldNowhereRow.holds Try.pinned (OpenSpec.ofChange fnHoldsCopyRenamedNodeIsHeldNowhereWrong)

end Rows
end Go.Proofs.Qxb6614448a
