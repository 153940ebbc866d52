/-
  NARROWER THAN 'FOR EVERY INPUT', by the rows' own cells (each row's printed sentence says how): FnStateReaderUint64ReadsLittleEndianWords: laid · FnStateReaderUint64TruncatedPrefixAgrees: laid.
  DERIVED. THE GIVEN ROWS OF THIS SEAT. 2 by the template 'for every input the law returns true; each argument reads behind the call as it read before'; 0 by the template 'total and deterministic' (their statements: Qxb6609082aDoorTotals.lean).
  GIVEN WITH THE SEED: the statements are not yours to turn. If you find one false, say at which input.
  Laid BY PROGRAM, IN A SANDBOX (cutbox-rows.mjs): the forced cells as the released guide's own fill.sh prints them over the translation d2571c456a148cdd… (all of the seat's roots in one cut). By AI agents, Wed Nov 11 2026. No macro, syntax, notation, axiom, sorry.
-/
import Derived.Test.Qxb6609082aDoorChecked
import GoSem.Claim
import GoSem.ClaimJoined
import GoSem.ClaimMapViews
import Derived.JoinedTies
import Derived.KernelRfl
namespace Go.Proofs.Qxb6609082aDoor
/- THE CELL 'sum', in the pinned program and in every row, IS THE sha256 OF THE DUMP (.gsa) THAT Qxb6609082aDoorProg.lean LOADS. Nothing in Lean hashes anything: it is a label: what it is worth is what the hold of that sum in a sandbox is worth. -/
noncomputable def Tryd.pinned : Pinned := { name := "qxb6609082adoor", sum := "d2571c456a148cddd7fbf1eb5e9d83237ed0f82935266d4303488538562816f7", checked := Tryd.checked }
namespace Rows
def none {H : Type} : Left H := { results := [], args := [] }

/- WHAT THE LISTED PACKAGE-LEVEL VARIABLES READ AS WHEN THE CALL BEGINS. Each datum BY PROGRAM (the guide's laid-datum.mjs) off the statement by which the dump's own 'gosem.cut.vars' lays the variable. In a bare row this is a premise. The card (Qxb6609082aDoorCards.lean) ties it to the program's text. -/
def laid_io_ErrShortBuffer {H : Type} : DataW H := .iface "*errors.errorString" (.ptr (.agg [.lit (.string [115, 104, 111, 114, 116, 32, 98, 117, 102, 102, 101, 114])]))
def laid_io_EOF {H : Type} : DataW H := .iface "*errors.errorString" (.ptr (.agg [.lit (.string [69, 79, 70])]))
def laid_io_ErrUnexpectedEOF {H : Type} : DataW H := .iface "*errors.errorString" (.ptr (.agg [.lit (.string [117, 110, 101, 120, 112, 101, 99, 116, 101, 100, 32, 69, 79, 70])]))

/-- 'zzlaws_root_b1.FnStateReaderUint64ReadsLittleEndianWords': WHATEVER THE INPUT: true; the input reads as it did. -/
def fnStateReaderUint64ReadsLittleEndianWordsSpec : ChangeSpec := { name := "fnStateReaderUint64ReadsLittleEndianWords", fn := fun _ => fun
  | [d1, d2] => { results := [.lit (.bool true)], args := [d1, d2] }
  | _ => none }
def fnStateReaderUint64ReadsLittleEndianWordsRow : OpenClaim := { program := "qxb6609082adoor", sum := "d2571c456a148cddd7fbf1eb5e9d83237ed0f82935266d4303488538562816f7", func := "example.com/cistern/cistern/zzlaws_root_b1.FnStateReaderUint64ReadsLittleEndianWords", spec := "fnStateReaderUint64ReadsLittleEndianWords", unfollowed := true, recurses := true, named := ["encoding/binary.LittleEndian", "io.ErrShortBuffer", "io.EOF", "io.ErrUnexpectedEOF"], apart := false, laid := [("io.ErrShortBuffer", laid_io_ErrShortBuffer), ("io.EOF", laid_io_EOF), ("io.ErrUnexpectedEOF", laid_io_ErrUnexpectedEOF)] }
def FnStateReaderUint64ReadsLittleEndianWordsSaid : Prop := fnStateReaderUint64ReadsLittleEndianWordsRow.holds Tryd.pinned (OpenSpec.ofChange fnStateReaderUint64ReadsLittleEndianWordsSpec)

/-- ITS FALSE NEIGHBOUR: 'it returns false'. Refute it at one input. -/
def fnStateReaderUint64ReadsLittleEndianWordsWrong : ChangeSpec := { name := "fnStateReaderUint64ReadsLittleEndianWords", fn := fun _ => fun
  | [d1, d2] => { results := [.lit (.bool false)], args := [d1, d2] }
  | _ => none }
def FnStateReaderUint64ReadsLittleEndianWordsWrongFalsely : Prop := fnStateReaderUint64ReadsLittleEndianWordsRow.holds Tryd.pinned (OpenSpec.ofChange fnStateReaderUint64ReadsLittleEndianWordsWrong)

/-- 'zzlaws_root_b1.FnStateReaderUint64TruncatedPrefixAgrees': WHATEVER THE INPUT: true; the input reads as it did. -/
def fnStateReaderUint64TruncatedPrefixAgreesSpec : ChangeSpec := { name := "fnStateReaderUint64TruncatedPrefixAgrees", fn := fun _ => fun
  | [d1, d2] => { results := [.lit (.bool true)], args := [d1, d2] }
  | _ => none }
def fnStateReaderUint64TruncatedPrefixAgreesRow : OpenClaim := { program := "qxb6609082adoor", sum := "d2571c456a148cddd7fbf1eb5e9d83237ed0f82935266d4303488538562816f7", func := "example.com/cistern/cistern/zzlaws_root_b1.FnStateReaderUint64TruncatedPrefixAgrees", spec := "fnStateReaderUint64TruncatedPrefixAgrees", unfollowed := true, recurses := true, named := ["encoding/binary.LittleEndian", "io.ErrShortBuffer", "io.EOF", "io.ErrUnexpectedEOF"], apart := false, laid := [("io.ErrShortBuffer", laid_io_ErrShortBuffer), ("io.EOF", laid_io_EOF), ("io.ErrUnexpectedEOF", laid_io_ErrUnexpectedEOF)] }
def FnStateReaderUint64TruncatedPrefixAgreesSaid : Prop := fnStateReaderUint64TruncatedPrefixAgreesRow.holds Tryd.pinned (OpenSpec.ofChange fnStateReaderUint64TruncatedPrefixAgreesSpec)

/-- ITS FALSE NEIGHBOUR: 'it returns false'. Refute it at one input. -/
def fnStateReaderUint64TruncatedPrefixAgreesWrong : ChangeSpec := { name := "fnStateReaderUint64TruncatedPrefixAgrees", fn := fun _ => fun
  | [d1, d2] => { results := [.lit (.bool false)], args := [d1, d2] }
  | _ => none }
def FnStateReaderUint64TruncatedPrefixAgreesWrongFalsely : Prop := fnStateReaderUint64TruncatedPrefixAgreesRow.holds Tryd.pinned (OpenSpec.ofChange fnStateReaderUint64TruncatedPrefixAgreesWrong)

end Rows
end Go.Proofs.Qxb6609082aDoor
