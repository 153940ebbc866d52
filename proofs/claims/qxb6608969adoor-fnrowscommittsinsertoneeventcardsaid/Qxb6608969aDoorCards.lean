/-
  DERIVED. GIVEN WITH THE SEED: THE CARDS: each row of Qxb6608969aDoorRows.lean that lists a variable, with what it lists TIED to the program's text (the seventh form; the later family's looks); each row that meets fmt, with fmt's text TOLD by the authors' own Lean function (tested against real Go, not proved from fmt's source: count such statements apart). THE CARD IS WHAT COUNTS. Prove the row's statement (the work); the ties are given (Qxb6608969aDoorTie.lean); close each card by the builder's one call (the guide's Derived/Test/ToyasCard.lean, 'card_holds'). Laid BY PROGRAM, IN A SANDBOX (cutbox-door.mjs). By AI agents, Wed Nov 11 2026. No macro, syntax, notation, axiom, sorry.
-/
import Derived.Test.Qxb6608969aDoorRows
import GoSem.ClaimSeven
namespace Go.Proofs.Qxb6608969aDoor
namespace Rows

/-- THE TIED CARD OF 'zzlaws_internal_storage_b1.FnRowsCommitTsJoinsAtAnyCut'. -/
def fnRowsCommitTsJoinsAtAnyCutCard : Claim7 := { stood := { row := fnRowsCommitTsJoinsAtAnyCutRow, standIns := [], harness := (true, "8a221e292476a393e32f6ca7da23c35540c13f2214457160f138b3737bd5289b"), looks := false }, kinds := [], alts := [], laidByText := true, laidKinds := [.called], laidTests := true, laidLooks := .later }
def FnRowsCommitTsJoinsAtAnyCutCardSaid : Prop := Claim7.holds Tryd.pinned (.plain (OpenSpec.ofChange fnRowsCommitTsJoinsAtAnyCutSpec)) fnRowsCommitTsJoinsAtAnyCutCard

/-- THE TIED CARD OF 'zzlaws_internal_storage_b1.FnRowsCommitTsInsertOneEvent'. -/
def fnRowsCommitTsInsertOneEventCard : Claim7 := { stood := { row := fnRowsCommitTsInsertOneEventRow, standIns := [], harness := (true, "8a221e292476a393e32f6ca7da23c35540c13f2214457160f138b3737bd5289b"), looks := false }, kinds := [], alts := [], laidByText := true, laidKinds := [.called], laidTests := true, laidLooks := .later }
def FnRowsCommitTsInsertOneEventCardSaid : Prop := Claim7.holds Tryd.pinned (.plain (OpenSpec.ofChange fnRowsCommitTsInsertOneEventSpec)) fnRowsCommitTsInsertOneEventCard
end Rows
end Go.Proofs.Qxb6608969aDoor
