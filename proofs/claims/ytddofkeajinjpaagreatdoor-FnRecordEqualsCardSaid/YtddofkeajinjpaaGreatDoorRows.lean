/-
  NARROWER THAN 'FOR EVERY INPUT', by the rows' own cells (each row's printed sentence says how): FnRecordEquals: laid.
  DERIVED. THE GIVEN ROWS OF THIS SEAT. 1 by the template 'for every input the law returns true; each argument reads behind the call as it read before'; 0 by the template 'total and deterministic' (their statements: YtddofkeajinjpaaGreatDoorTotals.lean).
  GIVEN WITH THE SEED: the statements are not yours to turn. If you find one false, say at which input.
  Laid BY PROGRAM, IN A SANDBOX (cutbox-rows.mjs): the forced cells as the released guide's own fill.sh prints them over the translation 6fd3f7868b2503df… (all of the seat's roots in one cut). By AI agents, Wed Nov 11 2026. No macro, syntax, notation, axiom, sorry.
-/
import Derived.Test.YtddofkeajinjpaaGreatDoorChecked
import GoSem.Claim
import GoSem.ClaimJoined
import GoSem.ClaimMapViews
import Derived.JoinedTies
import Derived.KernelRfl
namespace Go.Proofs.YtddofkeajinjpaaGreatDoor
/- THE CELL 'sum', in the pinned program and in every row, IS THE sha256 OF THE DUMP (.gsa) THAT YtddofkeajinjpaaGreatDoorProg.lean LOADS. Nothing in Lean hashes anything: it is a label: what it is worth is what the hold of that sum in a sandbox is worth. -/
noncomputable def Tryz.pinned : Pinned := { name := "ytddofkeajinjpaagreatdoor", sum := "6fd3f7868b2503df27f0354c87adac32f47894b6cd20e876b988b2406fe3069d", checked := Tryz.checked }
namespace Rows
def none {H : Type} : Left H := { results := [], args := [] }

/- WHAT THE LISTED PACKAGE-LEVEL VARIABLES READ AS WHEN THE CALL BEGINS. Each datum BY PROGRAM (the guide's laid-datum.mjs) off the statement by which the dump's own 'gosem.cut.vars' lays the variable. In a bare row this is a premise. The card (YtddofkeajinjpaaGreatDoorCards.lean) ties it to the program's text. -/
def laid_io_ErrUnexpectedEOF {H : Type} : DataW H := .iface "*errors.errorString" (.ptr (.agg [.lit (.string [117, 110, 101, 120, 112, 101, 99, 116, 101, 100, 32, 69, 79, 70])]))
def laid_pub_symmory_pub_protowire_errFieldNumber {H : Type} : DataW H := .iface "*errors.errorString" (.ptr (.agg [.lit (.string [105, 110, 118, 97, 108, 105, 100, 32, 102, 105, 101, 108, 100, 32, 110, 117, 109, 98, 101, 114])]))
def laid_pub_symmory_pub_protowire_errOverflow {H : Type} : DataW H := .iface "*errors.errorString" (.ptr (.agg [.lit (.string [118, 97, 114, 105, 97, 98, 108, 101, 32, 108, 101, 110, 103, 116, 104, 32, 105, 110, 116, 101, 103, 101, 114, 32, 111, 118, 101, 114, 102, 108, 111, 119])]))
def laid_pub_symmory_pub_protowire_errReserved {H : Type} : DataW H := .iface "*errors.errorString" (.ptr (.agg [.lit (.string [99, 97, 110, 110, 111, 116, 32, 112, 97, 114, 115, 101, 32, 114, 101, 115, 101, 114, 118, 101, 100, 32, 119, 105, 114, 101, 32, 116, 121, 112, 101])]))
def laid_pub_symmory_pub_protowire_errEndGroup {H : Type} : DataW H := .iface "*errors.errorString" (.ptr (.agg [.lit (.string [109, 105, 115, 109, 97, 116, 99, 104, 105, 110, 103, 32, 101, 110, 100, 32, 103, 114, 111, 117, 112, 32, 109, 97, 114, 107, 101, 114])]))
def laid_pub_symmory_pub_protowire_errParse {H : Type} : DataW H := .iface "*errors.errorString" (.ptr (.agg [.lit (.string [112, 97, 114, 115, 101, 32, 101, 114, 114, 111, 114])]))
def laid_pub_symmory_pub_libp2p_core_crypto_pb_errNumber {H : Type} : DataW H := .iface "*errors.errorString" (.ptr (.agg [.lit (.string [112, 114, 111, 116, 111, 58, 32, 105, 110, 118, 97, 108, 105, 100, 32, 102, 105, 101, 108, 100, 32, 110, 117, 109, 98, 101, 114])]))
def laid_pub_symmory_pub_libp2p_core_crypto_pb_errRequired {H : Type} : DataW H := .iface "*errors.errorString" (.ptr (.agg [.lit (.string [112, 114, 111, 116, 111, 58, 32, 114, 101, 113, 117, 105, 114, 101, 100, 32, 102, 105, 101, 108, 100, 32, 110, 111, 116, 32, 115, 101, 116])]))
def laid_pub_symmory_pub_libp2p_core_record_pb_errNumber {H : Type} : DataW H := .iface "*errors.errorString" (.ptr (.agg [.lit (.string [112, 114, 111, 116, 111, 58, 32, 105, 110, 118, 97, 108, 105, 100, 32, 102, 105, 101, 108, 100, 32, 110, 117, 109, 98, 101, 114])]))
def laid_pub_symmory_pub_libp2p_core_crypto_ErrBadKeyType {H : Type} : DataW H := .iface "*errors.errorString" (.ptr (.agg [.lit (.string [105, 110, 118, 97, 108, 105, 100, 32, 111, 114, 32, 117, 110, 115, 117, 112, 112, 111, 114, 116, 101, 100, 32, 107, 101, 121, 32, 116, 121, 112, 101])]))
def laid_pub_symmory_pub_libp2p_core_record_ErrEmptyDomain {H : Type} : DataW H := .iface "*errors.errorString" (.ptr (.agg [.lit (.string [101, 110, 118, 101, 108, 111, 112, 101, 32, 100, 111, 109, 97, 105, 110, 32, 109, 117, 115, 116, 32, 110, 111, 116, 32, 98, 101, 32, 101, 109, 112, 116, 121])]))
def laid_pub_symmory_pub_libp2p_core_record_ErrEmptyPayloadType {H : Type} : DataW H := .iface "*errors.errorString" (.ptr (.agg [.lit (.string [112, 97, 121, 108, 111, 97, 100, 84, 121, 112, 101, 32, 109, 117, 115, 116, 32, 110, 111, 116, 32, 98, 101, 32, 101, 109, 112, 116, 121])]))
def laid_pub_symmory_pub_libp2p_core_record_ErrInvalidSignature {H : Type} : DataW H := .iface "*errors.errorString" (.ptr (.agg [.lit (.string [105, 110, 118, 97, 108, 105, 100, 32, 115, 105, 103, 110, 97, 116, 117, 114, 101, 32, 111, 114, 32, 105, 110, 99, 111, 114, 114, 101, 99, 116, 32, 100, 111, 109, 97, 105, 110])]))

/-- 'laws.FnRecordEquals': WHATEVER THE INPUT: true; the input reads as it did. -/
def fnRecordEqualsSpec : ChangeSpec := { name := "fnRecordEquals", fn := fun _ => fun
  | [d1, d2] => { results := [.lit (.bool true)], args := [d1, d2] }
  | _ => none }
def fnRecordEqualsRow : OpenClaim := { program := "ytddofkeajinjpaagreatdoor", sum := "6fd3f7868b2503df27f0354c87adac32f47894b6cd20e876b988b2406fe3069d", func := "pub-symmory/laws.FnRecordEquals", spec := "fnRecordEquals", unfollowed := true, recurses := true, named := ["pub-symmory/pub/libp2p/core/crypto.ErrBadKeyType", "pub-symmory/pub/libp2p/core/record.ErrEmptyDomain", "pub-symmory/pub/libp2p/core/record.ErrEmptyPayloadType", "pub-symmory/pub/libp2p/core/crypto/pb.errRequired", "pub-symmory/pub/libp2p/core/record/pb.errNumber", "io.ErrUnexpectedEOF", "pub-symmory/pub/protowire.errFieldNumber", "pub-symmory/pub/protowire.errOverflow", "pub-symmory/pub/protowire.errReserved", "pub-symmory/pub/protowire.errEndGroup", "pub-symmory/pub/protowire.errParse", "pub-symmory/pub/libp2p/core/crypto/pb.errNumber", "pub-symmory/pub/libp2p/core/record.ErrInvalidSignature"], apart := false, laid := [("io.ErrUnexpectedEOF", laid_io_ErrUnexpectedEOF), ("pub-symmory/pub/protowire.errFieldNumber", laid_pub_symmory_pub_protowire_errFieldNumber), ("pub-symmory/pub/protowire.errOverflow", laid_pub_symmory_pub_protowire_errOverflow), ("pub-symmory/pub/protowire.errReserved", laid_pub_symmory_pub_protowire_errReserved), ("pub-symmory/pub/protowire.errEndGroup", laid_pub_symmory_pub_protowire_errEndGroup), ("pub-symmory/pub/protowire.errParse", laid_pub_symmory_pub_protowire_errParse), ("pub-symmory/pub/libp2p/core/crypto/pb.errNumber", laid_pub_symmory_pub_libp2p_core_crypto_pb_errNumber), ("pub-symmory/pub/libp2p/core/crypto/pb.errRequired", laid_pub_symmory_pub_libp2p_core_crypto_pb_errRequired), ("pub-symmory/pub/libp2p/core/record/pb.errNumber", laid_pub_symmory_pub_libp2p_core_record_pb_errNumber), ("pub-symmory/pub/libp2p/core/crypto.ErrBadKeyType", laid_pub_symmory_pub_libp2p_core_crypto_ErrBadKeyType), ("pub-symmory/pub/libp2p/core/record.ErrEmptyDomain", laid_pub_symmory_pub_libp2p_core_record_ErrEmptyDomain), ("pub-symmory/pub/libp2p/core/record.ErrEmptyPayloadType", laid_pub_symmory_pub_libp2p_core_record_ErrEmptyPayloadType), ("pub-symmory/pub/libp2p/core/record.ErrInvalidSignature", laid_pub_symmory_pub_libp2p_core_record_ErrInvalidSignature)] }
def FnRecordEqualsSaid : Prop := fnRecordEqualsRow.holds Tryz.pinned (OpenSpec.ofChange fnRecordEqualsSpec)

/-- ITS FALSE NEIGHBOUR: 'it returns false'. Refute it at one input. -/
def fnRecordEqualsWrong : ChangeSpec := { name := "fnRecordEquals", fn := fun _ => fun
  | [d1, d2] => { results := [.lit (.bool false)], args := [d1, d2] }
  | _ => none }
def FnRecordEqualsWrongFalsely : Prop := fnRecordEqualsRow.holds Tryz.pinned (OpenSpec.ofChange fnRecordEqualsWrong)

/- THE SECOND FORM. 'bulk': how many values and letters a reading holds, each counted each time it is reached (what is shared counts as often as it is met; a slice's spare places count too). A statement '..UptoSaid' is the law's where the arguments, and the package variables that the reading takes, are together of bulk at most 1048576: NARROWER than '..Said'. Prove '..Said' where nothing that the law and all that it calls make is longer than what came in: it says more and counts as full. Else prove '..UptoSaid'. A law counts once. -/
mutual
def uptoBulk {H : Type} : DataW H → Nat
  | .lit (.string bytes) => bytes.length + 1
  | .lit _ => 1
  | .nil => 1
  | .ptr d => uptoBulk d + 1
  | .slice elems spare => uptoBulkAll elems + uptoBulkAll spare + 1
  | .agg parts => uptoBulkAll parts + 1
  | .iface _ d => uptoBulk d + 1
  | .map entries => uptoBulkEntries entries + 1
  | .held _ => 1
def uptoBulkAll {H : Type} : List (DataW H) → Nat
  | [] => 0
  | d :: r => uptoBulk d + uptoBulkAll r
def uptoBulkEntries {H : Type} : List (Lit × DataW H) → Nat
  | [] => 0
  | x :: r => uptoBulkEntry x + uptoBulkEntries r
def uptoBulkEntry {H : Type} : Lit × DataW H → Nat
  | (.string bytes, d) => bytes.length + uptoBulk d + 1
  | (_, d) => uptoBulk d + 1
 end
def uptoSmall : (H : Type) → List (DataW H) → Bool := fun _ ds => decide (uptoBulkAll ds ≤ 1048576)
def OpenSpec.upto (s : _root_.Go.ChangeSpec) : _root_.Go.OpenSpec := { _root_.Go.OpenSpec.ofChange s with cond := some uptoSmall }

/-- 'laws.FnRecordEquals', WHERE WHAT IT READS IS OF BULK AT MOST 1048576: true; the input reads as it did. -/
def fnRecordEqualsUptoRow : OpenClaim := { program := "ytddofkeajinjpaagreatdoor", sum := "6fd3f7868b2503df27f0354c87adac32f47894b6cd20e876b988b2406fe3069d", func := "pub-symmory/laws.FnRecordEquals", spec := "fnRecordEquals", unfollowed := true, recurses := true, named := ["pub-symmory/pub/libp2p/core/crypto.ErrBadKeyType", "pub-symmory/pub/libp2p/core/record.ErrEmptyDomain", "pub-symmory/pub/libp2p/core/record.ErrEmptyPayloadType", "pub-symmory/pub/libp2p/core/crypto/pb.errRequired", "pub-symmory/pub/libp2p/core/record/pb.errNumber", "io.ErrUnexpectedEOF", "pub-symmory/pub/protowire.errFieldNumber", "pub-symmory/pub/protowire.errOverflow", "pub-symmory/pub/protowire.errReserved", "pub-symmory/pub/protowire.errEndGroup", "pub-symmory/pub/protowire.errParse", "pub-symmory/pub/libp2p/core/crypto/pb.errNumber", "pub-symmory/pub/libp2p/core/record.ErrInvalidSignature"], apart := false, laid := [("io.ErrUnexpectedEOF", laid_io_ErrUnexpectedEOF), ("pub-symmory/pub/protowire.errFieldNumber", laid_pub_symmory_pub_protowire_errFieldNumber), ("pub-symmory/pub/protowire.errOverflow", laid_pub_symmory_pub_protowire_errOverflow), ("pub-symmory/pub/protowire.errReserved", laid_pub_symmory_pub_protowire_errReserved), ("pub-symmory/pub/protowire.errEndGroup", laid_pub_symmory_pub_protowire_errEndGroup), ("pub-symmory/pub/protowire.errParse", laid_pub_symmory_pub_protowire_errParse), ("pub-symmory/pub/libp2p/core/crypto/pb.errNumber", laid_pub_symmory_pub_libp2p_core_crypto_pb_errNumber), ("pub-symmory/pub/libp2p/core/crypto/pb.errRequired", laid_pub_symmory_pub_libp2p_core_crypto_pb_errRequired), ("pub-symmory/pub/libp2p/core/record/pb.errNumber", laid_pub_symmory_pub_libp2p_core_record_pb_errNumber), ("pub-symmory/pub/libp2p/core/crypto.ErrBadKeyType", laid_pub_symmory_pub_libp2p_core_crypto_ErrBadKeyType), ("pub-symmory/pub/libp2p/core/record.ErrEmptyDomain", laid_pub_symmory_pub_libp2p_core_record_ErrEmptyDomain), ("pub-symmory/pub/libp2p/core/record.ErrEmptyPayloadType", laid_pub_symmory_pub_libp2p_core_record_ErrEmptyPayloadType), ("pub-symmory/pub/libp2p/core/record.ErrInvalidSignature", laid_pub_symmory_pub_libp2p_core_record_ErrInvalidSignature)], narrowed := true }
def FnRecordEqualsUptoSaid : Prop := fnRecordEqualsUptoRow.holds Tryz.pinned (OpenSpec.upto fnRecordEqualsSpec)

end Rows
end Go.Proofs.YtddofkeajinjpaaGreatDoor
