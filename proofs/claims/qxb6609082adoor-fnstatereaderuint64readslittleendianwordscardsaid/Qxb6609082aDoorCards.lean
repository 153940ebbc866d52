/-
  DERIVED. GIVEN WITH THE SEED: THE CARDS: each row of Qxb6609082aDoorRows.lean that lists a variable, with what it lists TIED to the program's text (the seventh form; the later family's looks); each row that meets fmt, with fmt's text TOLD by the authors' own Lean function (tested against real Go, not proved from fmt's source: count such statements apart). THE CARD IS WHAT COUNTS. Prove the row's statement (the work); the ties are given (Qxb6609082aDoorTie.lean); close each card by the builder's one call (the guide's Derived/Test/ToyasCard.lean, 'card_holds'). Laid BY PROGRAM, IN A SANDBOX (cutbox-door.mjs). By AI agents, Wed Nov 11 2026. No macro, syntax, notation, axiom, sorry.
-/
import Derived.Test.Qxb6609082aDoorRows
import GoSem.ClaimSeven
namespace Go.Proofs.Qxb6609082aDoor
namespace Rows

/-- THE TIED CARD OF 'zzlaws_root_b1.FnStateReaderUint64ReadsLittleEndianWords'. -/
def fnStateReaderUint64ReadsLittleEndianWordsCard : Claim7 := { stood := { row := fnStateReaderUint64ReadsLittleEndianWordsRow, standIns := [], harness := (true, "fb659d4ae4e780efc95850156fafaef58f8bd65f1b8813d026f3cc127fba505c"), looks := true }, kinds := [], alts := [], laidByText := true, laidKinds := [.sentinel, .sentinel, .sentinel], laidTests := true, laidLooks := .later }
def FnStateReaderUint64ReadsLittleEndianWordsCardSaid : Prop := Claim7.holds Tryd.pinned (.plain (OpenSpec.ofChange fnStateReaderUint64ReadsLittleEndianWordsSpec)) fnStateReaderUint64ReadsLittleEndianWordsCard

/-- THE TIED CARD OF 'zzlaws_root_b1.FnStateReaderUint64TruncatedPrefixAgrees'. -/
def fnStateReaderUint64TruncatedPrefixAgreesCard : Claim7 := { stood := { row := fnStateReaderUint64TruncatedPrefixAgreesRow, standIns := [], harness := (true, "fb659d4ae4e780efc95850156fafaef58f8bd65f1b8813d026f3cc127fba505c"), looks := true }, kinds := [], alts := [], laidByText := true, laidKinds := [.sentinel, .sentinel, .sentinel], laidTests := true, laidLooks := .later }
def FnStateReaderUint64TruncatedPrefixAgreesCardSaid : Prop := Claim7.holds Tryd.pinned (.plain (OpenSpec.ofChange fnStateReaderUint64TruncatedPrefixAgreesSpec)) fnStateReaderUint64TruncatedPrefixAgreesCard
end Rows
end Go.Proofs.Qxb6609082aDoor
