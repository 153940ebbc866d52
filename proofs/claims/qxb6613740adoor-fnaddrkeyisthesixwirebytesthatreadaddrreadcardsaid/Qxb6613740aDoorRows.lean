/-
  NARROWER THAN 'FOR EVERY INPUT', by the rows' own cells (each row's printed sentence says how): FnAddrKeyIsTheSixWireBytesThatReadAddrRead: laid · FnAddrKeyOrdersAddressesAsTheirWireBytes: laid · FnObserveKeepsEachListingAsItsLastEventAndCountsUnlistedPairs: laid.
  DERIVED. THE GIVEN ROWS OF THIS SEAT. 3 by the template 'for every input the law returns true; each argument reads behind the call as it read before'; 0 by the template 'total and deterministic' (their statements: Qxb6613740aDoorTotals.lean).
  GIVEN WITH THE SEED: the statements are not yours to turn. If you find one false, say at which input.
  Laid BY PROGRAM, IN A SANDBOX (cutbox-rows.mjs): the forced cells as the released guide's own fill.sh prints them over the translation 1db05f8901f7308b… (all of the seat's roots in one cut). By AI agents, Wed Nov 11 2026. No macro, syntax, notation, axiom, sorry.
-/
import Derived.Test.Qxb6613740aDoorChecked
import GoSem.Claim
import GoSem.ClaimJoined
import GoSem.ClaimMapViews
import Derived.JoinedTies
import Derived.KernelRfl
namespace Go.Proofs.Qxb6613740aDoor
/- THE CELL 'sum', in the pinned program and in every row, IS THE sha256 OF THE DUMP (.gsa) THAT Qxb6613740aDoorProg.lean LOADS. Nothing in Lean hashes anything: it is a label: what it is worth is what the hold of that sum in a sandbox is worth. -/
noncomputable def Tryd.pinned : Pinned := { name := "qxb6613740adoor", sum := "1db05f8901f7308b11c99d8c2284e576babf5e9b8801631d510b19ed8e8ae747", checked := Tryd.checked }
namespace Rows
def none {H : Type} : Left H := { results := [], args := [] }

/- WHAT THE LISTED PACKAGE-LEVEL VARIABLES READ AS WHEN THE CALL BEGINS. Each datum BY PROGRAM (the guide's laid-datum.mjs) off the statement by which the dump's own 'gosem.cut.vars' lays the variable. In a bare row this is a premise. The card (Qxb6613740aDoorCards.lean) ties it to the program's text. -/
def laid_net_netip_z4 {H : Type} : DataW H := .agg [.ptr (.agg [.lit (.bool false), .lit (.string [])])]
def laid_net_netip_z6noz {H : Type} : DataW H := .agg [.ptr (.agg [.lit (.bool true), .lit (.string [])])]
def laid_net_netip_z0 {H : Type} : DataW H := .agg [.nil]

/-- 'zzlaws_root_b1.FnAddrKeyIsTheSixWireBytesThatReadAddrRead': WHATEVER THE INPUT: true; the input reads as it did. -/
def fnAddrKeyIsTheSixWireBytesThatReadAddrReadSpec : ChangeSpec := { name := "fnAddrKeyIsTheSixWireBytesThatReadAddrRead", fn := fun _ => fun
  | [d] => { results := [.lit (.bool true)], args := [d] }
  | _ => none }
def fnAddrKeyIsTheSixWireBytesThatReadAddrReadRow : OpenClaim := { program := "qxb6613740adoor", sum := "1db05f8901f7308b11c99d8c2284e576babf5e9b8801631d510b19ed8e8ae747", func := "example.com/contagion/contagion/zzlaws_root_b1.FnAddrKeyIsTheSixWireBytesThatReadAddrRead", spec := "fnAddrKeyIsTheSixWireBytesThatReadAddrRead", named := ["encoding/binary.BigEndian", "net/netip.z4", "net/netip.z6noz", "net/netip.z0"], plainKeys := false, apart := false, laid := [("net/netip.z4", laid_net_netip_z4), ("net/netip.z6noz", laid_net_netip_z6noz), ("net/netip.z0", laid_net_netip_z0)] }
def FnAddrKeyIsTheSixWireBytesThatReadAddrReadSaid : Prop := fnAddrKeyIsTheSixWireBytesThatReadAddrReadRow.holds Tryd.pinned (OpenSpec.ofChange fnAddrKeyIsTheSixWireBytesThatReadAddrReadSpec)

/-- ITS FALSE NEIGHBOUR: 'it returns false'. Refute it at one input. -/
def fnAddrKeyIsTheSixWireBytesThatReadAddrReadWrong : ChangeSpec := { name := "fnAddrKeyIsTheSixWireBytesThatReadAddrRead", fn := fun _ => fun
  | [d] => { results := [.lit (.bool false)], args := [d] }
  | _ => none }
def FnAddrKeyIsTheSixWireBytesThatReadAddrReadWrongFalsely : Prop := fnAddrKeyIsTheSixWireBytesThatReadAddrReadRow.holds Tryd.pinned (OpenSpec.ofChange fnAddrKeyIsTheSixWireBytesThatReadAddrReadWrong)

/-- 'zzlaws_root_b1.FnAddrKeyOrdersAddressesAsTheirWireBytes': WHATEVER THE INPUT: true; the input reads as it did. -/
def fnAddrKeyOrdersAddressesAsTheirWireBytesSpec : ChangeSpec := { name := "fnAddrKeyOrdersAddressesAsTheirWireBytes", fn := fun _ => fun
  | [d1, d2, d3, d4] => { results := [.lit (.bool true)], args := [d1, d2, d3, d4] }
  | _ => none }
def fnAddrKeyOrdersAddressesAsTheirWireBytesRow : OpenClaim := { program := "qxb6613740adoor", sum := "1db05f8901f7308b11c99d8c2284e576babf5e9b8801631d510b19ed8e8ae747", func := "example.com/contagion/contagion/zzlaws_root_b1.FnAddrKeyOrdersAddressesAsTheirWireBytes", spec := "fnAddrKeyOrdersAddressesAsTheirWireBytes", named := ["net/netip.z4", "encoding/binary.BigEndian", "net/netip.z0"], plainKeys := false, apart := false, laid := [("net/netip.z4", laid_net_netip_z4), ("net/netip.z0", laid_net_netip_z0)] }
def FnAddrKeyOrdersAddressesAsTheirWireBytesSaid : Prop := fnAddrKeyOrdersAddressesAsTheirWireBytesRow.holds Tryd.pinned (OpenSpec.ofChange fnAddrKeyOrdersAddressesAsTheirWireBytesSpec)

/-- ITS FALSE NEIGHBOUR: 'it returns false'. Refute it at one input. -/
def fnAddrKeyOrdersAddressesAsTheirWireBytesWrong : ChangeSpec := { name := "fnAddrKeyOrdersAddressesAsTheirWireBytes", fn := fun _ => fun
  | [d1, d2, d3, d4] => { results := [.lit (.bool false)], args := [d1, d2, d3, d4] }
  | _ => none }
def FnAddrKeyOrdersAddressesAsTheirWireBytesWrongFalsely : Prop := fnAddrKeyOrdersAddressesAsTheirWireBytesRow.holds Tryd.pinned (OpenSpec.ofChange fnAddrKeyOrdersAddressesAsTheirWireBytesWrong)

/-- 'zzlaws_root_b1.FnObserveKeepsEachListingAsItsLastEventAndCountsUnlistedPairs': WHATEVER THE INPUT: true; the input reads as it did. -/
def fnObserveKeepsEachListingAsItsLastEventAndCountsUnlistedPairsSpec : ChangeSpec := { name := "fnObserveKeepsEachListingAsItsLastEventAndCountsUnlistedPairs", fn := fun _ => fun
  | [d1, d2] => { results := [.lit (.bool true)], args := [d1, d2] }
  | _ => none }
def fnObserveKeepsEachListingAsItsLastEventAndCountsUnlistedPairsRow : OpenClaim := { program := "qxb6613740adoor", sum := "1db05f8901f7308b11c99d8c2284e576babf5e9b8801631d510b19ed8e8ae747", func := "example.com/contagion/contagion/zzlaws_root_b1.FnObserveKeepsEachListingAsItsLastEventAndCountsUnlistedPairs", spec := "fnObserveKeepsEachListingAsItsLastEventAndCountsUnlistedPairs", named := ["net/netip.z4", "encoding/binary.BigEndian", "net/netip.z0"], plainKeys := false, apart := false, laid := [("net/netip.z4", laid_net_netip_z4), ("net/netip.z0", laid_net_netip_z0)] }
def FnObserveKeepsEachListingAsItsLastEventAndCountsUnlistedPairsSaid : Prop := fnObserveKeepsEachListingAsItsLastEventAndCountsUnlistedPairsRow.holds Tryd.pinned (OpenSpec.ofChange fnObserveKeepsEachListingAsItsLastEventAndCountsUnlistedPairsSpec)

/-- ITS FALSE NEIGHBOUR: 'it returns false'. Refute it at one input. -/
def fnObserveKeepsEachListingAsItsLastEventAndCountsUnlistedPairsWrong : ChangeSpec := { name := "fnObserveKeepsEachListingAsItsLastEventAndCountsUnlistedPairs", fn := fun _ => fun
  | [d1, d2] => { results := [.lit (.bool false)], args := [d1, d2] }
  | _ => none }
def FnObserveKeepsEachListingAsItsLastEventAndCountsUnlistedPairsWrongFalsely : Prop := fnObserveKeepsEachListingAsItsLastEventAndCountsUnlistedPairsRow.holds Tryd.pinned (OpenSpec.ofChange fnObserveKeepsEachListingAsItsLastEventAndCountsUnlistedPairsWrong)

end Rows
end Go.Proofs.Qxb6613740aDoor
