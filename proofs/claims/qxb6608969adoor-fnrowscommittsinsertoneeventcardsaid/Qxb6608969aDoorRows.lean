/-
  NARROWER THAN 'FOR EVERY INPUT', by the rows' own cells (each row's printed sentence says how): FnRowsCommitTsJoinsAtAnyCut: ifaces, laid · FnRowsCommitTsInsertOneEvent: ifaces, laid.
  DERIVED. THE GIVEN ROWS OF THIS SEAT. 2 by the template 'for every input the law returns true; each argument reads behind the call as it read before'; 0 by the template 'total and deterministic' (their statements: Qxb6608969aDoorTotals.lean).
  GIVEN WITH THE SEED: the statements are not yours to turn. If you find one false, say at which input.
  Laid BY PROGRAM, IN A SANDBOX (cutbox-rows.mjs): the forced cells as the released guide's own fill.sh prints them over the translation 6e888a56487d2a63… (all of the seat's roots in one cut). By AI agents, Wed Nov 11 2026. No macro, syntax, notation, axiom, sorry.
-/
import Derived.Test.Qxb6608969aDoorChecked
import GoSem.Claim
import GoSem.ClaimJoined
import GoSem.ClaimMapViews
import Derived.JoinedTies
import Derived.KernelRfl
namespace Go.Proofs.Qxb6608969aDoor
/- THE CELL 'sum', in the pinned program and in every row, IS THE sha256 OF THE DUMP (.gsa) THAT Qxb6608969aDoorProg.lean LOADS. Nothing in Lean hashes anything: it is a label: what it is worth is what the hold of that sum in a sandbox is worth. -/
noncomputable def Tryd.pinned : Pinned := { name := "qxb6608969adoor", sum := "6e888a56487d2a63d8a541d7b066dab4d466a0a0983454319799dfa7e20c80ef", checked := Tryd.checked }
namespace Rows
def none {H : Type} : Left H := { results := [], args := [] }

/- WHAT THE LISTED PACKAGE-LEVEL VARIABLES READ AS WHEN THE CALL BEGINS. Each datum BY PROGRAM (the guide's laid-datum.mjs) off the statement by which the dump's own 'gosem.cut.vars' lays the variable. In a bare row this is a premise. The card (Qxb6608969aDoorCards.lean) ties it to the program's text. -/
def laid_example_com_rowtide_rowtide_internal_storage_errNoRowChange {H : Type} : DataW H := .iface "*errors.errorString" (.ptr (.agg [.lit (.string [110, 111, 116, 32, 97, 32, 114, 111, 119, 32, 99, 104, 97, 110, 103, 101, 58, 32, 97, 32, 100, 97, 116, 97, 32, 102, 105, 108, 101, 39, 115, 32, 108, 105, 110, 101, 115, 32, 104, 111, 108, 100, 32, 114, 111, 119, 32, 99, 104, 97, 110, 103, 101, 115, 32, 97, 108, 111, 110, 101])]))

/-- 'zzlaws_internal_storage_b1.FnRowsCommitTsJoinsAtAnyCut': WHATEVER THE INPUT: true; the input reads as it did. -/
def fnRowsCommitTsJoinsAtAnyCutSpec : ChangeSpec := { name := "fnRowsCommitTsJoinsAtAnyCut", vars := ["example.com/rowtide/rowtide/internal/storage.errNoRowChange"], fn := fun _ => fun
  | [d1, d2, g1] => { results := [.lit (.bool true)], args := [d1, d2], vars := [g1] }
  | _ => none }
def fnRowsCommitTsJoinsAtAnyCutRow : OpenClaim := { program := "qxb6608969adoor", sum := "6e888a56487d2a63d8a541d7b066dab4d466a0a0983454319799dfa7e20c80ef", func := "example.com/rowtide/rowtide/zzlaws_internal_storage_b1.FnRowsCommitTsJoinsAtAnyCut", spec := "fnRowsCommitTsJoinsAtAnyCut", named := ["example.com/rowtide/rowtide/internal/storage.errNoRowChange"], ifaces := true, apart := false, laid := [("example.com/rowtide/rowtide/internal/storage.errNoRowChange", laid_example_com_rowtide_rowtide_internal_storage_errNoRowChange)] }
def FnRowsCommitTsJoinsAtAnyCutSaid : Prop := fnRowsCommitTsJoinsAtAnyCutRow.holds Tryd.pinned (OpenSpec.ofChange fnRowsCommitTsJoinsAtAnyCutSpec)

/-- ITS FALSE NEIGHBOUR: 'it returns false'. Refute it at one input. -/
def fnRowsCommitTsJoinsAtAnyCutWrong : ChangeSpec := { name := "fnRowsCommitTsJoinsAtAnyCut", vars := ["example.com/rowtide/rowtide/internal/storage.errNoRowChange"], fn := fun _ => fun
  | [d1, d2, g1] => { results := [.lit (.bool false)], args := [d1, d2], vars := [g1] }
  | _ => none }
def FnRowsCommitTsJoinsAtAnyCutWrongFalsely : Prop := fnRowsCommitTsJoinsAtAnyCutRow.holds Tryd.pinned (OpenSpec.ofChange fnRowsCommitTsJoinsAtAnyCutWrong)

/-- 'zzlaws_internal_storage_b1.FnRowsCommitTsInsertOneEvent': WHATEVER THE INPUT: true; the input reads as it did. -/
def fnRowsCommitTsInsertOneEventSpec : ChangeSpec := { name := "fnRowsCommitTsInsertOneEvent", vars := ["example.com/rowtide/rowtide/internal/storage.errNoRowChange"], fn := fun _ => fun
  | [d1, d2, d3, g1] => { results := [.lit (.bool true)], args := [d1, d2, d3], vars := [g1] }
  | _ => none }
def fnRowsCommitTsInsertOneEventRow : OpenClaim := { program := "qxb6608969adoor", sum := "6e888a56487d2a63d8a541d7b066dab4d466a0a0983454319799dfa7e20c80ef", func := "example.com/rowtide/rowtide/zzlaws_internal_storage_b1.FnRowsCommitTsInsertOneEvent", spec := "fnRowsCommitTsInsertOneEvent", named := ["example.com/rowtide/rowtide/internal/storage.errNoRowChange"], ifaces := true, apart := false, laid := [("example.com/rowtide/rowtide/internal/storage.errNoRowChange", laid_example_com_rowtide_rowtide_internal_storage_errNoRowChange)] }
def FnRowsCommitTsInsertOneEventSaid : Prop := fnRowsCommitTsInsertOneEventRow.holds Tryd.pinned (OpenSpec.ofChange fnRowsCommitTsInsertOneEventSpec)

/-- ITS FALSE NEIGHBOUR: 'it returns false'. Refute it at one input. -/
def fnRowsCommitTsInsertOneEventWrong : ChangeSpec := { name := "fnRowsCommitTsInsertOneEvent", vars := ["example.com/rowtide/rowtide/internal/storage.errNoRowChange"], fn := fun _ => fun
  | [d1, d2, d3, g1] => { results := [.lit (.bool false)], args := [d1, d2, d3], vars := [g1] }
  | _ => none }
def FnRowsCommitTsInsertOneEventWrongFalsely : Prop := fnRowsCommitTsInsertOneEventRow.holds Tryd.pinned (OpenSpec.ofChange fnRowsCommitTsInsertOneEventWrong)

end Rows
end Go.Proofs.Qxb6608969aDoor
