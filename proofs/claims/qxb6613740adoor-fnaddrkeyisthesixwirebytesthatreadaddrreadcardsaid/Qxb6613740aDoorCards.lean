/-
  DERIVED. GIVEN WITH THE SEED: THE CARDS: each row of Qxb6613740aDoorRows.lean that lists a variable, with what it lists TIED to the program's text (the seventh form; the later family's looks); each row that meets fmt, with fmt's text TOLD by the authors' own Lean function (tested against real Go, not proved from fmt's source: count such statements apart). THE CARD IS WHAT COUNTS. Prove the row's statement (the work); the ties are given (Qxb6613740aDoorTie.lean); close each card by the builder's one call (the guide's Derived/Test/ToyasCard.lean, 'card_holds'). Laid BY PROGRAM, IN A SANDBOX (cutbox-door.mjs). By AI agents, Wed Nov 11 2026. No macro, syntax, notation, axiom, sorry.
-/
import Derived.Test.Qxb6613740aDoorRows
import GoSem.ClaimSeven
namespace Go.Proofs.Qxb6613740aDoor
namespace Rows

/-- THE TIED CARD OF 'zzlaws_root_b1.FnAddrKeyIsTheSixWireBytesThatReadAddrRead'. -/
def fnAddrKeyIsTheSixWireBytesThatReadAddrReadCard : Claim7 := { stood := { row := fnAddrKeyIsTheSixWireBytesThatReadAddrReadRow, standIns := [], harness := (true, "0e81bab25121613c6aff9837599013f6ce19cf163bf341fc41749c2e45c0f861"), looks := false }, kinds := [], alts := [], laidByText := true, laidKinds := [.called, .called, .zero], laidTests := true, laidLooks := .later }
def FnAddrKeyIsTheSixWireBytesThatReadAddrReadCardSaid : Prop := Claim7.holds Tryd.pinned (.plain (OpenSpec.ofChange fnAddrKeyIsTheSixWireBytesThatReadAddrReadSpec)) fnAddrKeyIsTheSixWireBytesThatReadAddrReadCard

/-- THE TIED CARD OF 'zzlaws_root_b1.FnAddrKeyOrdersAddressesAsTheirWireBytes'. -/
def fnAddrKeyOrdersAddressesAsTheirWireBytesCard : Claim7 := { stood := { row := fnAddrKeyOrdersAddressesAsTheirWireBytesRow, standIns := [], harness := (true, "0e81bab25121613c6aff9837599013f6ce19cf163bf341fc41749c2e45c0f861"), looks := false }, kinds := [], alts := [], laidByText := true, laidKinds := [.called, .zero], laidTests := true, laidLooks := .later }
def FnAddrKeyOrdersAddressesAsTheirWireBytesCardSaid : Prop := Claim7.holds Tryd.pinned (.plain (OpenSpec.ofChange fnAddrKeyOrdersAddressesAsTheirWireBytesSpec)) fnAddrKeyOrdersAddressesAsTheirWireBytesCard

/-- THE TIED CARD OF 'zzlaws_root_b1.FnObserveKeepsEachListingAsItsLastEventAndCountsUnlistedPairs'. -/
def fnObserveKeepsEachListingAsItsLastEventAndCountsUnlistedPairsCard : Claim7 := { stood := { row := fnObserveKeepsEachListingAsItsLastEventAndCountsUnlistedPairsRow, standIns := [], harness := (true, "0e81bab25121613c6aff9837599013f6ce19cf163bf341fc41749c2e45c0f861"), looks := false }, kinds := [], alts := [], laidByText := true, laidKinds := [.called, .zero], laidTests := true, laidLooks := .later }
def FnObserveKeepsEachListingAsItsLastEventAndCountsUnlistedPairsCardSaid : Prop := Claim7.holds Tryd.pinned (.plain (OpenSpec.ofChange fnObserveKeepsEachListingAsItsLastEventAndCountsUnlistedPairsSpec)) fnObserveKeepsEachListingAsItsLastEventAndCountsUnlistedPairsCard
end Rows
end Go.Proofs.Qxb6613740aDoor
