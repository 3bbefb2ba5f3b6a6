/-
  NARROWER THAN 'FOR EVERY INPUT', by the rows' own cells (each row's printed sentence says how): FnKeyName: laid · FnKeyRead: laid · FnKeyLast: laid · FnKeyMore: laid · FnKeyWide: laid · FnKeyRecordSize: laid · FnKeyRecordRead: laid · FnKeyAddressTorn: laid · FnKeyRecordMore: laid · FnKeyRecordTorn: laid · FnKeyEnvelopeRead: laid · FnKeyEnvelopeJoined: laid · FnKeyEnvelopeMore: laid · FnKeyWithin: laid.
  DERIVED. THE GIVEN ROWS OF THIS SEAT. 14 by the template 'for every input the law returns true; each argument reads behind the call as it read before'; 0 by the template 'total and deterministic' (their statements: YtipleaojejbkpaaDoorTotals.lean).
  GIVEN WITH THE SEED: the statements are not yours to turn. If you find one false, say at which input.
  Laid BY PROGRAM, IN A SANDBOX (cutbox-rows.mjs): the forced cells as the released guide's own fill.sh prints them over the translation 5057724bb1173630… (all of the seat's roots in one cut). By AI agents, Wed Nov 11 2026. No macro, syntax, notation, axiom, sorry.
-/
import Derived.Test.YtipleaojejbkpaaDoorChecked
import GoSem.Claim
import GoSem.ClaimJoined
import GoSem.ClaimMapViews
import Derived.JoinedTies
import Derived.KernelRfl
namespace Go.Proofs.YtipleaojejbkpaaDoor
/- THE CELL 'sum', in the pinned program and in every row, IS THE sha256 OF THE DUMP (.gsa) THAT YtipleaojejbkpaaDoorProg.lean LOADS. Nothing in Lean hashes anything: it is a label: what it is worth is what the hold of that sum in a sandbox is worth. -/
noncomputable def Tryd.pinned : Pinned := { name := "ytipleaojejbkpaadoor", sum := "5057724bb11736309e696666749e84a351897cbc4e6a5c11fb6e9ad064c80168", checked := Tryd.checked }
namespace Rows
def none {H : Type} : Left H := { results := [], args := [] }

/- WHAT THE LISTED PACKAGE-LEVEL VARIABLES READ AS WHEN THE CALL BEGINS. Each datum BY PROGRAM (the guide's laid-datum.mjs) off the statement by which the dump's own 'gosem.cut.vars' lays the variable. In a bare row this is a premise. The card (YtipleaojejbkpaaDoorCards.lean) ties it to the program's text. -/
def laid_math_bits_deBruijn32tab {H : Type} : DataW H := .agg [.lit (.int .u8 0), .lit (.int .u8 1), .lit (.int .u8 28), .lit (.int .u8 2), .lit (.int .u8 29), .lit (.int .u8 14), .lit (.int .u8 24), .lit (.int .u8 3), .lit (.int .u8 30), .lit (.int .u8 22), .lit (.int .u8 20), .lit (.int .u8 15), .lit (.int .u8 25), .lit (.int .u8 17), .lit (.int .u8 4), .lit (.int .u8 8), .lit (.int .u8 31), .lit (.int .u8 27), .lit (.int .u8 13), .lit (.int .u8 23), .lit (.int .u8 21), .lit (.int .u8 19), .lit (.int .u8 16), .lit (.int .u8 7), .lit (.int .u8 26), .lit (.int .u8 12), .lit (.int .u8 18), .lit (.int .u8 6), .lit (.int .u8 11), .lit (.int .u8 5), .lit (.int .u8 10), .lit (.int .u8 9)]
def laid_math_bits_deBruijn64tab {H : Type} : DataW H := .agg [.lit (.int .u8 0), .lit (.int .u8 1), .lit (.int .u8 56), .lit (.int .u8 2), .lit (.int .u8 57), .lit (.int .u8 49), .lit (.int .u8 28), .lit (.int .u8 3), .lit (.int .u8 61), .lit (.int .u8 58), .lit (.int .u8 42), .lit (.int .u8 50), .lit (.int .u8 38), .lit (.int .u8 29), .lit (.int .u8 17), .lit (.int .u8 4), .lit (.int .u8 62), .lit (.int .u8 47), .lit (.int .u8 59), .lit (.int .u8 36), .lit (.int .u8 45), .lit (.int .u8 43), .lit (.int .u8 51), .lit (.int .u8 22), .lit (.int .u8 53), .lit (.int .u8 39), .lit (.int .u8 33), .lit (.int .u8 30), .lit (.int .u8 24), .lit (.int .u8 18), .lit (.int .u8 12), .lit (.int .u8 5), .lit (.int .u8 63), .lit (.int .u8 55), .lit (.int .u8 48), .lit (.int .u8 27), .lit (.int .u8 60), .lit (.int .u8 41), .lit (.int .u8 37), .lit (.int .u8 16), .lit (.int .u8 46), .lit (.int .u8 35), .lit (.int .u8 44), .lit (.int .u8 21), .lit (.int .u8 52), .lit (.int .u8 32), .lit (.int .u8 23), .lit (.int .u8 11), .lit (.int .u8 54), .lit (.int .u8 26), .lit (.int .u8 40), .lit (.int .u8 15), .lit (.int .u8 34), .lit (.int .u8 20), .lit (.int .u8 31), .lit (.int .u8 10), .lit (.int .u8 25), .lit (.int .u8 14), .lit (.int .u8 19), .lit (.int .u8 9), .lit (.int .u8 13), .lit (.int .u8 8), .lit (.int .u8 7), .lit (.int .u8 6)]
def laid_internal_strconv_uint64pow10 {H : Type} : DataW H := .agg [.lit (.int .u64 1), .lit (.int .u64 10), .lit (.int .u64 100), .lit (.int .u64 1000), .lit (.int .u64 10000), .lit (.int .u64 100000), .lit (.int .u64 1000000), .lit (.int .u64 10000000), .lit (.int .u64 100000000), .lit (.int .u64 1000000000), .lit (.int .u64 10000000000), .lit (.int .u64 100000000000), .lit (.int .u64 1000000000000), .lit (.int .u64 10000000000000), .lit (.int .u64 100000000000000), .lit (.int .u64 1000000000000000), .lit (.int .u64 10000000000000000), .lit (.int .u64 100000000000000000), .lit (.int .u64 1000000000000000000), .lit (.int .u64 10000000000000000000)]
def laid_io_ErrUnexpectedEOF {H : Type} : DataW H := .iface "*errors.errorString" (.ptr (.agg [.lit (.string [117, 110, 101, 120, 112, 101, 99, 116, 101, 100, 32, 69, 79, 70])]))
def laid_pub_symmory_pub_protowire_errFieldNumber {H : Type} : DataW H := .iface "*errors.errorString" (.ptr (.agg [.lit (.string [105, 110, 118, 97, 108, 105, 100, 32, 102, 105, 101, 108, 100, 32, 110, 117, 109, 98, 101, 114])]))
def laid_pub_symmory_pub_protowire_errOverflow {H : Type} : DataW H := .iface "*errors.errorString" (.ptr (.agg [.lit (.string [118, 97, 114, 105, 97, 98, 108, 101, 32, 108, 101, 110, 103, 116, 104, 32, 105, 110, 116, 101, 103, 101, 114, 32, 111, 118, 101, 114, 102, 108, 111, 119])]))
def laid_pub_symmory_pub_protowire_errReserved {H : Type} : DataW H := .iface "*errors.errorString" (.ptr (.agg [.lit (.string [99, 97, 110, 110, 111, 116, 32, 112, 97, 114, 115, 101, 32, 114, 101, 115, 101, 114, 118, 101, 100, 32, 119, 105, 114, 101, 32, 116, 121, 112, 101])]))
def laid_pub_symmory_pub_protowire_errEndGroup {H : Type} : DataW H := .iface "*errors.errorString" (.ptr (.agg [.lit (.string [109, 105, 115, 109, 97, 116, 99, 104, 105, 110, 103, 32, 101, 110, 100, 32, 103, 114, 111, 117, 112, 32, 109, 97, 114, 107, 101, 114])]))
def laid_pub_symmory_pub_protowire_errParse {H : Type} : DataW H := .iface "*errors.errorString" (.ptr (.agg [.lit (.string [112, 97, 114, 115, 101, 32, 101, 114, 114, 111, 114])]))
def laid_pub_symmory_pub_libp2p_core_crypto_pb_errNumber {H : Type} : DataW H := .iface "*errors.errorString" (.ptr (.agg [.lit (.string [112, 114, 111, 116, 111, 58, 32, 105, 110, 118, 97, 108, 105, 100, 32, 102, 105, 101, 108, 100, 32, 110, 117, 109, 98, 101, 114])]))
def laid_pub_symmory_pub_libp2p_core_crypto_pb_errRequired {H : Type} : DataW H := .iface "*errors.errorString" (.ptr (.agg [.lit (.string [112, 114, 111, 116, 111, 58, 32, 114, 101, 113, 117, 105, 114, 101, 100, 32, 102, 105, 101, 108, 100, 32, 110, 111, 116, 32, 115, 101, 116])]))
def laid_pub_symmory_pub_libp2p_core_peer_pb_errNumber {H : Type} : DataW H := .iface "*errors.errorString" (.ptr (.agg [.lit (.string [112, 114, 111, 116, 111, 58, 32, 105, 110, 118, 97, 108, 105, 100, 32, 102, 105, 101, 108, 100, 32, 110, 117, 109, 98, 101, 114])]))
def laid_pub_symmory_pub_libp2p_core_record_pb_errNumber {H : Type} : DataW H := .iface "*errors.errorString" (.ptr (.agg [.lit (.string [112, 114, 111, 116, 111, 58, 32, 105, 110, 118, 97, 108, 105, 100, 32, 102, 105, 101, 108, 100, 32, 110, 117, 109, 98, 101, 114])]))

/-- 'laws.FnKeyName': WHATEVER THE INPUT: true; the input reads as it did. -/
def fnKeyNameSpec : ChangeSpec := { name := "fnKeyName", fn := fun _ => fun
  | [d] => { results := [.lit (.bool true)], args := [d] }
  | _ => none }
def fnKeyNameRow : OpenClaim := { program := "ytipleaojejbkpaadoor", sum := "5057724bb11736309e696666749e84a351897cbc4e6a5c11fb6e9ad064c80168", func := "pub-symmory/laws.FnKeyName", spec := "fnKeyName", named := ["internal/strconv.uint64pow10", "math/bits.deBruijn32tab", "math/bits.deBruijn64tab"], apart := false, laid := [("math/bits.deBruijn32tab", laid_math_bits_deBruijn32tab), ("math/bits.deBruijn64tab", laid_math_bits_deBruijn64tab), ("internal/strconv.uint64pow10", laid_internal_strconv_uint64pow10)] }
def FnKeyNameSaid : Prop := fnKeyNameRow.holds Tryd.pinned (OpenSpec.ofChange fnKeyNameSpec)

/-- ITS FALSE NEIGHBOUR: 'it returns false'. Refute it at one input. -/
def fnKeyNameWrong : ChangeSpec := { name := "fnKeyName", fn := fun _ => fun
  | [d] => { results := [.lit (.bool false)], args := [d] }
  | _ => none }
def FnKeyNameWrongFalsely : Prop := fnKeyNameRow.holds Tryd.pinned (OpenSpec.ofChange fnKeyNameWrong)

/-- 'laws.FnKeyRead': WHATEVER THE INPUT: true; the input reads as it did. -/
def fnKeyReadSpec : ChangeSpec := { name := "fnKeyRead", fn := fun _ => fun
  | [d] => { results := [.lit (.bool true)], args := [d] }
  | _ => none }
def fnKeyReadRow : OpenClaim := { program := "ytipleaojejbkpaadoor", sum := "5057724bb11736309e696666749e84a351897cbc4e6a5c11fb6e9ad064c80168", func := "pub-symmory/laws.FnKeyRead", spec := "fnKeyRead", recurses := true, named := ["pub-symmory/pub/libp2p/core/crypto/pb.errRequired", "pub-symmory/pub/libp2p/core/crypto/pb.errNumber", "io.ErrUnexpectedEOF", "pub-symmory/pub/protowire.errFieldNumber", "pub-symmory/pub/protowire.errOverflow", "pub-symmory/pub/protowire.errReserved", "pub-symmory/pub/protowire.errEndGroup", "pub-symmory/pub/protowire.errParse"], apart := false, laid := [("io.ErrUnexpectedEOF", laid_io_ErrUnexpectedEOF), ("pub-symmory/pub/protowire.errFieldNumber", laid_pub_symmory_pub_protowire_errFieldNumber), ("pub-symmory/pub/protowire.errOverflow", laid_pub_symmory_pub_protowire_errOverflow), ("pub-symmory/pub/protowire.errReserved", laid_pub_symmory_pub_protowire_errReserved), ("pub-symmory/pub/protowire.errEndGroup", laid_pub_symmory_pub_protowire_errEndGroup), ("pub-symmory/pub/protowire.errParse", laid_pub_symmory_pub_protowire_errParse), ("pub-symmory/pub/libp2p/core/crypto/pb.errNumber", laid_pub_symmory_pub_libp2p_core_crypto_pb_errNumber), ("pub-symmory/pub/libp2p/core/crypto/pb.errRequired", laid_pub_symmory_pub_libp2p_core_crypto_pb_errRequired)] }
def FnKeyReadSaid : Prop := fnKeyReadRow.holds Tryd.pinned (OpenSpec.ofChange fnKeyReadSpec)

/-- ITS FALSE NEIGHBOUR: 'it returns false'. Refute it at one input. -/
def fnKeyReadWrong : ChangeSpec := { name := "fnKeyRead", fn := fun _ => fun
  | [d] => { results := [.lit (.bool false)], args := [d] }
  | _ => none }
def FnKeyReadWrongFalsely : Prop := fnKeyReadRow.holds Tryd.pinned (OpenSpec.ofChange fnKeyReadWrong)

/-- 'laws.FnKeyLast': WHATEVER THE INPUT: true; the input reads as it did. -/
def fnKeyLastSpec : ChangeSpec := { name := "fnKeyLast", fn := fun _ => fun
  | [d1, d2, d3, d4, d5] => { results := [.lit (.bool true)], args := [d1, d2, d3, d4, d5] }
  | _ => none }
def fnKeyLastRow : OpenClaim := { program := "ytipleaojejbkpaadoor", sum := "5057724bb11736309e696666749e84a351897cbc4e6a5c11fb6e9ad064c80168", func := "pub-symmory/laws.FnKeyLast", spec := "fnKeyLast", recurses := true, named := ["pub-symmory/pub/libp2p/core/crypto/pb.errRequired", "pub-symmory/pub/libp2p/core/crypto/pb.errNumber", "io.ErrUnexpectedEOF", "pub-symmory/pub/protowire.errFieldNumber", "pub-symmory/pub/protowire.errOverflow", "pub-symmory/pub/protowire.errReserved", "pub-symmory/pub/protowire.errEndGroup", "pub-symmory/pub/protowire.errParse"], apart := false, laid := [("io.ErrUnexpectedEOF", laid_io_ErrUnexpectedEOF), ("pub-symmory/pub/protowire.errFieldNumber", laid_pub_symmory_pub_protowire_errFieldNumber), ("pub-symmory/pub/protowire.errOverflow", laid_pub_symmory_pub_protowire_errOverflow), ("pub-symmory/pub/protowire.errReserved", laid_pub_symmory_pub_protowire_errReserved), ("pub-symmory/pub/protowire.errEndGroup", laid_pub_symmory_pub_protowire_errEndGroup), ("pub-symmory/pub/protowire.errParse", laid_pub_symmory_pub_protowire_errParse), ("pub-symmory/pub/libp2p/core/crypto/pb.errNumber", laid_pub_symmory_pub_libp2p_core_crypto_pb_errNumber), ("pub-symmory/pub/libp2p/core/crypto/pb.errRequired", laid_pub_symmory_pub_libp2p_core_crypto_pb_errRequired)] }
def FnKeyLastSaid : Prop := fnKeyLastRow.holds Tryd.pinned (OpenSpec.ofChange fnKeyLastSpec)

/-- ITS FALSE NEIGHBOUR: 'it returns false'. Refute it at one input. -/
def fnKeyLastWrong : ChangeSpec := { name := "fnKeyLast", fn := fun _ => fun
  | [d1, d2, d3, d4, d5] => { results := [.lit (.bool false)], args := [d1, d2, d3, d4, d5] }
  | _ => none }
def FnKeyLastWrongFalsely : Prop := fnKeyLastRow.holds Tryd.pinned (OpenSpec.ofChange fnKeyLastWrong)

/-- 'laws.FnKeyMore': WHATEVER THE INPUT: true; the input reads as it did. -/
def fnKeyMoreSpec : ChangeSpec := { name := "fnKeyMore", fn := fun _ => fun
  | [d1, d2, d3, d4, d5, d6, d7] => { results := [.lit (.bool true)], args := [d1, d2, d3, d4, d5, d6, d7] }
  | _ => none }
def fnKeyMoreRow : OpenClaim := { program := "ytipleaojejbkpaadoor", sum := "5057724bb11736309e696666749e84a351897cbc4e6a5c11fb6e9ad064c80168", func := "pub-symmory/laws.FnKeyMore", spec := "fnKeyMore", recurses := true, named := ["pub-symmory/pub/libp2p/core/crypto/pb.errRequired", "pub-symmory/pub/libp2p/core/crypto/pb.errNumber", "io.ErrUnexpectedEOF", "pub-symmory/pub/protowire.errFieldNumber", "pub-symmory/pub/protowire.errOverflow", "pub-symmory/pub/protowire.errReserved", "pub-symmory/pub/protowire.errEndGroup", "pub-symmory/pub/protowire.errParse"], apart := false, laid := [("io.ErrUnexpectedEOF", laid_io_ErrUnexpectedEOF), ("pub-symmory/pub/protowire.errFieldNumber", laid_pub_symmory_pub_protowire_errFieldNumber), ("pub-symmory/pub/protowire.errOverflow", laid_pub_symmory_pub_protowire_errOverflow), ("pub-symmory/pub/protowire.errReserved", laid_pub_symmory_pub_protowire_errReserved), ("pub-symmory/pub/protowire.errEndGroup", laid_pub_symmory_pub_protowire_errEndGroup), ("pub-symmory/pub/protowire.errParse", laid_pub_symmory_pub_protowire_errParse), ("pub-symmory/pub/libp2p/core/crypto/pb.errNumber", laid_pub_symmory_pub_libp2p_core_crypto_pb_errNumber), ("pub-symmory/pub/libp2p/core/crypto/pb.errRequired", laid_pub_symmory_pub_libp2p_core_crypto_pb_errRequired)] }
def FnKeyMoreSaid : Prop := fnKeyMoreRow.holds Tryd.pinned (OpenSpec.ofChange fnKeyMoreSpec)

/-- ITS FALSE NEIGHBOUR: 'it returns false'. Refute it at one input. -/
def fnKeyMoreWrong : ChangeSpec := { name := "fnKeyMore", fn := fun _ => fun
  | [d1, d2, d3, d4, d5, d6, d7] => { results := [.lit (.bool false)], args := [d1, d2, d3, d4, d5, d6, d7] }
  | _ => none }
def FnKeyMoreWrongFalsely : Prop := fnKeyMoreRow.holds Tryd.pinned (OpenSpec.ofChange fnKeyMoreWrong)

/-- 'laws.FnKeyWide': WHATEVER THE INPUT: true; the input reads as it did. -/
def fnKeyWideSpec : ChangeSpec := { name := "fnKeyWide", fn := fun _ => fun
  | [d1, d2, d3] => { results := [.lit (.bool true)], args := [d1, d2, d3] }
  | _ => none }
def fnKeyWideRow : OpenClaim := { program := "ytipleaojejbkpaadoor", sum := "5057724bb11736309e696666749e84a351897cbc4e6a5c11fb6e9ad064c80168", func := "pub-symmory/laws.FnKeyWide", spec := "fnKeyWide", recurses := true, named := ["pub-symmory/pub/libp2p/core/crypto/pb.errRequired", "pub-symmory/pub/libp2p/core/crypto/pb.errNumber", "io.ErrUnexpectedEOF", "pub-symmory/pub/protowire.errFieldNumber", "pub-symmory/pub/protowire.errOverflow", "pub-symmory/pub/protowire.errReserved", "pub-symmory/pub/protowire.errEndGroup", "pub-symmory/pub/protowire.errParse"], apart := false, laid := [("io.ErrUnexpectedEOF", laid_io_ErrUnexpectedEOF), ("pub-symmory/pub/protowire.errFieldNumber", laid_pub_symmory_pub_protowire_errFieldNumber), ("pub-symmory/pub/protowire.errOverflow", laid_pub_symmory_pub_protowire_errOverflow), ("pub-symmory/pub/protowire.errReserved", laid_pub_symmory_pub_protowire_errReserved), ("pub-symmory/pub/protowire.errEndGroup", laid_pub_symmory_pub_protowire_errEndGroup), ("pub-symmory/pub/protowire.errParse", laid_pub_symmory_pub_protowire_errParse), ("pub-symmory/pub/libp2p/core/crypto/pb.errNumber", laid_pub_symmory_pub_libp2p_core_crypto_pb_errNumber), ("pub-symmory/pub/libp2p/core/crypto/pb.errRequired", laid_pub_symmory_pub_libp2p_core_crypto_pb_errRequired)] }
def FnKeyWideSaid : Prop := fnKeyWideRow.holds Tryd.pinned (OpenSpec.ofChange fnKeyWideSpec)

/-- ITS FALSE NEIGHBOUR: 'it returns false'. Refute it at one input. -/
def fnKeyWideWrong : ChangeSpec := { name := "fnKeyWide", fn := fun _ => fun
  | [d1, d2, d3] => { results := [.lit (.bool false)], args := [d1, d2, d3] }
  | _ => none }
def FnKeyWideWrongFalsely : Prop := fnKeyWideRow.holds Tryd.pinned (OpenSpec.ofChange fnKeyWideWrong)

/-- 'laws.FnKeyRecordSize': WHATEVER THE INPUT: true; the input reads as it did. -/
def fnKeyRecordSizeSpec : ChangeSpec := { name := "fnKeyRecordSize", fn := fun _ => fun
  | [d] => { results := [.lit (.bool true)], args := [d] }
  | _ => none }
def fnKeyRecordSizeRow : OpenClaim := { program := "ytipleaojejbkpaadoor", sum := "5057724bb11736309e696666749e84a351897cbc4e6a5c11fb6e9ad064c80168", func := "pub-symmory/laws.FnKeyRecordSize", spec := "fnKeyRecordSize", unfollowed := true, recurses := true, named := ["pub-symmory/pub/libp2p/core/peer/pb.errNumber", "io.ErrUnexpectedEOF", "pub-symmory/pub/protowire.errFieldNumber", "pub-symmory/pub/protowire.errOverflow", "pub-symmory/pub/protowire.errReserved", "pub-symmory/pub/protowire.errEndGroup", "pub-symmory/pub/protowire.errParse"], apart := false, laid := [("io.ErrUnexpectedEOF", laid_io_ErrUnexpectedEOF), ("pub-symmory/pub/protowire.errFieldNumber", laid_pub_symmory_pub_protowire_errFieldNumber), ("pub-symmory/pub/protowire.errOverflow", laid_pub_symmory_pub_protowire_errOverflow), ("pub-symmory/pub/protowire.errReserved", laid_pub_symmory_pub_protowire_errReserved), ("pub-symmory/pub/protowire.errEndGroup", laid_pub_symmory_pub_protowire_errEndGroup), ("pub-symmory/pub/protowire.errParse", laid_pub_symmory_pub_protowire_errParse), ("pub-symmory/pub/libp2p/core/peer/pb.errNumber", laid_pub_symmory_pub_libp2p_core_peer_pb_errNumber)] }
def FnKeyRecordSizeSaid : Prop := fnKeyRecordSizeRow.holds Tryd.pinned (OpenSpec.ofChange fnKeyRecordSizeSpec)

/-- ITS FALSE NEIGHBOUR: 'it returns false'. Refute it at one input. -/
def fnKeyRecordSizeWrong : ChangeSpec := { name := "fnKeyRecordSize", fn := fun _ => fun
  | [d] => { results := [.lit (.bool false)], args := [d] }
  | _ => none }
def FnKeyRecordSizeWrongFalsely : Prop := fnKeyRecordSizeRow.holds Tryd.pinned (OpenSpec.ofChange fnKeyRecordSizeWrong)

/-- 'laws.FnKeyRecordRead': WHATEVER THE INPUT: true; the input reads as it did. -/
def fnKeyRecordReadSpec : ChangeSpec := { name := "fnKeyRecordRead", fn := fun _ => fun
  | [d] => { results := [.lit (.bool true)], args := [d] }
  | _ => none }
def fnKeyRecordReadRow : OpenClaim := { program := "ytipleaojejbkpaadoor", sum := "5057724bb11736309e696666749e84a351897cbc4e6a5c11fb6e9ad064c80168", func := "pub-symmory/laws.FnKeyRecordRead", spec := "fnKeyRecordRead", unfollowed := true, recurses := true, named := ["pub-symmory/pub/libp2p/core/peer/pb.errNumber", "io.ErrUnexpectedEOF", "pub-symmory/pub/protowire.errFieldNumber", "pub-symmory/pub/protowire.errOverflow", "pub-symmory/pub/protowire.errReserved", "pub-symmory/pub/protowire.errEndGroup", "pub-symmory/pub/protowire.errParse"], apart := false, laid := [("io.ErrUnexpectedEOF", laid_io_ErrUnexpectedEOF), ("pub-symmory/pub/protowire.errFieldNumber", laid_pub_symmory_pub_protowire_errFieldNumber), ("pub-symmory/pub/protowire.errOverflow", laid_pub_symmory_pub_protowire_errOverflow), ("pub-symmory/pub/protowire.errReserved", laid_pub_symmory_pub_protowire_errReserved), ("pub-symmory/pub/protowire.errEndGroup", laid_pub_symmory_pub_protowire_errEndGroup), ("pub-symmory/pub/protowire.errParse", laid_pub_symmory_pub_protowire_errParse), ("pub-symmory/pub/libp2p/core/peer/pb.errNumber", laid_pub_symmory_pub_libp2p_core_peer_pb_errNumber)] }
def FnKeyRecordReadSaid : Prop := fnKeyRecordReadRow.holds Tryd.pinned (OpenSpec.ofChange fnKeyRecordReadSpec)

/-- ITS FALSE NEIGHBOUR: 'it returns false'. Refute it at one input. -/
def fnKeyRecordReadWrong : ChangeSpec := { name := "fnKeyRecordRead", fn := fun _ => fun
  | [d] => { results := [.lit (.bool false)], args := [d] }
  | _ => none }
def FnKeyRecordReadWrongFalsely : Prop := fnKeyRecordReadRow.holds Tryd.pinned (OpenSpec.ofChange fnKeyRecordReadWrong)

/-- 'laws.FnKeyAddressTorn': WHATEVER THE INPUT: true; the input reads as it did. -/
def fnKeyAddressTornSpec : ChangeSpec := { name := "fnKeyAddressTorn", fn := fun _ => fun
  | [d1, d2, d3] => { results := [.lit (.bool true)], args := [d1, d2, d3] }
  | _ => none }
def fnKeyAddressTornRow : OpenClaim := { program := "ytipleaojejbkpaadoor", sum := "5057724bb11736309e696666749e84a351897cbc4e6a5c11fb6e9ad064c80168", func := "pub-symmory/laws.FnKeyAddressTorn", spec := "fnKeyAddressTorn", unfollowed := true, recurses := true, named := ["pub-symmory/pub/libp2p/core/peer/pb.errNumber", "io.ErrUnexpectedEOF", "pub-symmory/pub/protowire.errFieldNumber", "pub-symmory/pub/protowire.errOverflow", "pub-symmory/pub/protowire.errReserved", "pub-symmory/pub/protowire.errEndGroup", "pub-symmory/pub/protowire.errParse"], apart := false, laid := [("io.ErrUnexpectedEOF", laid_io_ErrUnexpectedEOF), ("pub-symmory/pub/protowire.errFieldNumber", laid_pub_symmory_pub_protowire_errFieldNumber), ("pub-symmory/pub/protowire.errOverflow", laid_pub_symmory_pub_protowire_errOverflow), ("pub-symmory/pub/protowire.errReserved", laid_pub_symmory_pub_protowire_errReserved), ("pub-symmory/pub/protowire.errEndGroup", laid_pub_symmory_pub_protowire_errEndGroup), ("pub-symmory/pub/protowire.errParse", laid_pub_symmory_pub_protowire_errParse), ("pub-symmory/pub/libp2p/core/peer/pb.errNumber", laid_pub_symmory_pub_libp2p_core_peer_pb_errNumber)] }
def FnKeyAddressTornSaid : Prop := fnKeyAddressTornRow.holds Tryd.pinned (OpenSpec.ofChange fnKeyAddressTornSpec)

/-- ITS FALSE NEIGHBOUR: 'it returns false'. Refute it at one input. -/
def fnKeyAddressTornWrong : ChangeSpec := { name := "fnKeyAddressTorn", fn := fun _ => fun
  | [d1, d2, d3] => { results := [.lit (.bool false)], args := [d1, d2, d3] }
  | _ => none }
def FnKeyAddressTornWrongFalsely : Prop := fnKeyAddressTornRow.holds Tryd.pinned (OpenSpec.ofChange fnKeyAddressTornWrong)

/-- 'laws.FnKeyRecordMore': WHATEVER THE INPUT: true; the input reads as it did. -/
def fnKeyRecordMoreSpec : ChangeSpec := { name := "fnKeyRecordMore", fn := fun _ => fun
  | [d1, d2, d3, d4] => { results := [.lit (.bool true)], args := [d1, d2, d3, d4] }
  | _ => none }
def fnKeyRecordMoreRow : OpenClaim := { program := "ytipleaojejbkpaadoor", sum := "5057724bb11736309e696666749e84a351897cbc4e6a5c11fb6e9ad064c80168", func := "pub-symmory/laws.FnKeyRecordMore", spec := "fnKeyRecordMore", unfollowed := true, recurses := true, named := ["pub-symmory/pub/libp2p/core/peer/pb.errNumber", "io.ErrUnexpectedEOF", "pub-symmory/pub/protowire.errFieldNumber", "pub-symmory/pub/protowire.errOverflow", "pub-symmory/pub/protowire.errReserved", "pub-symmory/pub/protowire.errEndGroup", "pub-symmory/pub/protowire.errParse"], apart := false, laid := [("io.ErrUnexpectedEOF", laid_io_ErrUnexpectedEOF), ("pub-symmory/pub/protowire.errFieldNumber", laid_pub_symmory_pub_protowire_errFieldNumber), ("pub-symmory/pub/protowire.errOverflow", laid_pub_symmory_pub_protowire_errOverflow), ("pub-symmory/pub/protowire.errReserved", laid_pub_symmory_pub_protowire_errReserved), ("pub-symmory/pub/protowire.errEndGroup", laid_pub_symmory_pub_protowire_errEndGroup), ("pub-symmory/pub/protowire.errParse", laid_pub_symmory_pub_protowire_errParse), ("pub-symmory/pub/libp2p/core/peer/pb.errNumber", laid_pub_symmory_pub_libp2p_core_peer_pb_errNumber)] }
def FnKeyRecordMoreSaid : Prop := fnKeyRecordMoreRow.holds Tryd.pinned (OpenSpec.ofChange fnKeyRecordMoreSpec)

/-- ITS FALSE NEIGHBOUR: 'it returns false'. Refute it at one input. -/
def fnKeyRecordMoreWrong : ChangeSpec := { name := "fnKeyRecordMore", fn := fun _ => fun
  | [d1, d2, d3, d4] => { results := [.lit (.bool false)], args := [d1, d2, d3, d4] }
  | _ => none }
def FnKeyRecordMoreWrongFalsely : Prop := fnKeyRecordMoreRow.holds Tryd.pinned (OpenSpec.ofChange fnKeyRecordMoreWrong)

/-- 'laws.FnKeyRecordTorn': WHATEVER THE INPUT: true; the input reads as it did. -/
def fnKeyRecordTornSpec : ChangeSpec := { name := "fnKeyRecordTorn", fn := fun _ => fun
  | [d1, d2] => { results := [.lit (.bool true)], args := [d1, d2] }
  | _ => none }
def fnKeyRecordTornRow : OpenClaim := { program := "ytipleaojejbkpaadoor", sum := "5057724bb11736309e696666749e84a351897cbc4e6a5c11fb6e9ad064c80168", func := "pub-symmory/laws.FnKeyRecordTorn", spec := "fnKeyRecordTorn", unfollowed := true, recurses := true, named := ["pub-symmory/pub/libp2p/core/peer/pb.errNumber", "io.ErrUnexpectedEOF", "pub-symmory/pub/protowire.errFieldNumber", "pub-symmory/pub/protowire.errOverflow", "pub-symmory/pub/protowire.errReserved", "pub-symmory/pub/protowire.errEndGroup", "pub-symmory/pub/protowire.errParse"], apart := false, laid := [("io.ErrUnexpectedEOF", laid_io_ErrUnexpectedEOF), ("pub-symmory/pub/protowire.errFieldNumber", laid_pub_symmory_pub_protowire_errFieldNumber), ("pub-symmory/pub/protowire.errOverflow", laid_pub_symmory_pub_protowire_errOverflow), ("pub-symmory/pub/protowire.errReserved", laid_pub_symmory_pub_protowire_errReserved), ("pub-symmory/pub/protowire.errEndGroup", laid_pub_symmory_pub_protowire_errEndGroup), ("pub-symmory/pub/protowire.errParse", laid_pub_symmory_pub_protowire_errParse), ("pub-symmory/pub/libp2p/core/peer/pb.errNumber", laid_pub_symmory_pub_libp2p_core_peer_pb_errNumber)] }
def FnKeyRecordTornSaid : Prop := fnKeyRecordTornRow.holds Tryd.pinned (OpenSpec.ofChange fnKeyRecordTornSpec)

/-- ITS FALSE NEIGHBOUR: 'it returns false'. Refute it at one input. -/
def fnKeyRecordTornWrong : ChangeSpec := { name := "fnKeyRecordTorn", fn := fun _ => fun
  | [d1, d2] => { results := [.lit (.bool false)], args := [d1, d2] }
  | _ => none }
def FnKeyRecordTornWrongFalsely : Prop := fnKeyRecordTornRow.holds Tryd.pinned (OpenSpec.ofChange fnKeyRecordTornWrong)

/-- 'laws.FnKeyEnvelopeRead': WHATEVER THE INPUT: true; the input reads as it did. -/
def fnKeyEnvelopeReadSpec : ChangeSpec := { name := "fnKeyEnvelopeRead", fn := fun _ => fun
  | [d] => { results := [.lit (.bool true)], args := [d] }
  | _ => none }
def fnKeyEnvelopeReadRow : OpenClaim := { program := "ytipleaojejbkpaadoor", sum := "5057724bb11736309e696666749e84a351897cbc4e6a5c11fb6e9ad064c80168", func := "pub-symmory/laws.FnKeyEnvelopeRead", spec := "fnKeyEnvelopeRead", recurses := true, named := ["pub-symmory/pub/libp2p/core/crypto/pb.errRequired", "pub-symmory/pub/libp2p/core/record/pb.errNumber", "io.ErrUnexpectedEOF", "pub-symmory/pub/protowire.errFieldNumber", "pub-symmory/pub/protowire.errOverflow", "pub-symmory/pub/protowire.errReserved", "pub-symmory/pub/protowire.errEndGroup", "pub-symmory/pub/protowire.errParse", "pub-symmory/pub/libp2p/core/crypto/pb.errNumber"], apart := false, laid := [("io.ErrUnexpectedEOF", laid_io_ErrUnexpectedEOF), ("pub-symmory/pub/protowire.errFieldNumber", laid_pub_symmory_pub_protowire_errFieldNumber), ("pub-symmory/pub/protowire.errOverflow", laid_pub_symmory_pub_protowire_errOverflow), ("pub-symmory/pub/protowire.errReserved", laid_pub_symmory_pub_protowire_errReserved), ("pub-symmory/pub/protowire.errEndGroup", laid_pub_symmory_pub_protowire_errEndGroup), ("pub-symmory/pub/protowire.errParse", laid_pub_symmory_pub_protowire_errParse), ("pub-symmory/pub/libp2p/core/crypto/pb.errNumber", laid_pub_symmory_pub_libp2p_core_crypto_pb_errNumber), ("pub-symmory/pub/libp2p/core/crypto/pb.errRequired", laid_pub_symmory_pub_libp2p_core_crypto_pb_errRequired), ("pub-symmory/pub/libp2p/core/record/pb.errNumber", laid_pub_symmory_pub_libp2p_core_record_pb_errNumber)] }
def FnKeyEnvelopeReadSaid : Prop := fnKeyEnvelopeReadRow.holds Tryd.pinned (OpenSpec.ofChange fnKeyEnvelopeReadSpec)

/-- ITS FALSE NEIGHBOUR: 'it returns false'. Refute it at one input. -/
def fnKeyEnvelopeReadWrong : ChangeSpec := { name := "fnKeyEnvelopeRead", fn := fun _ => fun
  | [d] => { results := [.lit (.bool false)], args := [d] }
  | _ => none }
def FnKeyEnvelopeReadWrongFalsely : Prop := fnKeyEnvelopeReadRow.holds Tryd.pinned (OpenSpec.ofChange fnKeyEnvelopeReadWrong)

/-- 'laws.FnKeyEnvelopeJoined': WHATEVER THE INPUT: true; the input reads as it did. -/
def fnKeyEnvelopeJoinedSpec : ChangeSpec := { name := "fnKeyEnvelopeJoined", fn := fun _ => fun
  | [d1, d2] => { results := [.lit (.bool true)], args := [d1, d2] }
  | _ => none }
def fnKeyEnvelopeJoinedRow : OpenClaim := { program := "ytipleaojejbkpaadoor", sum := "5057724bb11736309e696666749e84a351897cbc4e6a5c11fb6e9ad064c80168", func := "pub-symmory/laws.FnKeyEnvelopeJoined", spec := "fnKeyEnvelopeJoined", recurses := true, named := ["pub-symmory/pub/libp2p/core/crypto/pb.errRequired", "pub-symmory/pub/libp2p/core/record/pb.errNumber", "io.ErrUnexpectedEOF", "pub-symmory/pub/protowire.errFieldNumber", "pub-symmory/pub/protowire.errOverflow", "pub-symmory/pub/protowire.errReserved", "pub-symmory/pub/protowire.errEndGroup", "pub-symmory/pub/protowire.errParse", "pub-symmory/pub/libp2p/core/crypto/pb.errNumber"], apart := false, laid := [("io.ErrUnexpectedEOF", laid_io_ErrUnexpectedEOF), ("pub-symmory/pub/protowire.errFieldNumber", laid_pub_symmory_pub_protowire_errFieldNumber), ("pub-symmory/pub/protowire.errOverflow", laid_pub_symmory_pub_protowire_errOverflow), ("pub-symmory/pub/protowire.errReserved", laid_pub_symmory_pub_protowire_errReserved), ("pub-symmory/pub/protowire.errEndGroup", laid_pub_symmory_pub_protowire_errEndGroup), ("pub-symmory/pub/protowire.errParse", laid_pub_symmory_pub_protowire_errParse), ("pub-symmory/pub/libp2p/core/crypto/pb.errNumber", laid_pub_symmory_pub_libp2p_core_crypto_pb_errNumber), ("pub-symmory/pub/libp2p/core/crypto/pb.errRequired", laid_pub_symmory_pub_libp2p_core_crypto_pb_errRequired), ("pub-symmory/pub/libp2p/core/record/pb.errNumber", laid_pub_symmory_pub_libp2p_core_record_pb_errNumber)] }
def FnKeyEnvelopeJoinedSaid : Prop := fnKeyEnvelopeJoinedRow.holds Tryd.pinned (OpenSpec.ofChange fnKeyEnvelopeJoinedSpec)

/-- ITS FALSE NEIGHBOUR: 'it returns false'. Refute it at one input. -/
def fnKeyEnvelopeJoinedWrong : ChangeSpec := { name := "fnKeyEnvelopeJoined", fn := fun _ => fun
  | [d1, d2] => { results := [.lit (.bool false)], args := [d1, d2] }
  | _ => none }
def FnKeyEnvelopeJoinedWrongFalsely : Prop := fnKeyEnvelopeJoinedRow.holds Tryd.pinned (OpenSpec.ofChange fnKeyEnvelopeJoinedWrong)

/-- 'laws.FnKeyEnvelopeMore': WHATEVER THE INPUT: true; the input reads as it did. -/
def fnKeyEnvelopeMoreSpec : ChangeSpec := { name := "fnKeyEnvelopeMore", fn := fun _ => fun
  | [d1, d2, d3, d4] => { results := [.lit (.bool true)], args := [d1, d2, d3, d4] }
  | _ => none }
def fnKeyEnvelopeMoreRow : OpenClaim := { program := "ytipleaojejbkpaadoor", sum := "5057724bb11736309e696666749e84a351897cbc4e6a5c11fb6e9ad064c80168", func := "pub-symmory/laws.FnKeyEnvelopeMore", spec := "fnKeyEnvelopeMore", recurses := true, named := ["pub-symmory/pub/libp2p/core/crypto/pb.errRequired", "pub-symmory/pub/libp2p/core/record/pb.errNumber", "io.ErrUnexpectedEOF", "pub-symmory/pub/protowire.errFieldNumber", "pub-symmory/pub/protowire.errOverflow", "pub-symmory/pub/protowire.errReserved", "pub-symmory/pub/protowire.errEndGroup", "pub-symmory/pub/protowire.errParse", "pub-symmory/pub/libp2p/core/crypto/pb.errNumber"], apart := false, laid := [("io.ErrUnexpectedEOF", laid_io_ErrUnexpectedEOF), ("pub-symmory/pub/protowire.errFieldNumber", laid_pub_symmory_pub_protowire_errFieldNumber), ("pub-symmory/pub/protowire.errOverflow", laid_pub_symmory_pub_protowire_errOverflow), ("pub-symmory/pub/protowire.errReserved", laid_pub_symmory_pub_protowire_errReserved), ("pub-symmory/pub/protowire.errEndGroup", laid_pub_symmory_pub_protowire_errEndGroup), ("pub-symmory/pub/protowire.errParse", laid_pub_symmory_pub_protowire_errParse), ("pub-symmory/pub/libp2p/core/crypto/pb.errNumber", laid_pub_symmory_pub_libp2p_core_crypto_pb_errNumber), ("pub-symmory/pub/libp2p/core/crypto/pb.errRequired", laid_pub_symmory_pub_libp2p_core_crypto_pb_errRequired), ("pub-symmory/pub/libp2p/core/record/pb.errNumber", laid_pub_symmory_pub_libp2p_core_record_pb_errNumber)] }
def FnKeyEnvelopeMoreSaid : Prop := fnKeyEnvelopeMoreRow.holds Tryd.pinned (OpenSpec.ofChange fnKeyEnvelopeMoreSpec)

/-- ITS FALSE NEIGHBOUR: 'it returns false'. Refute it at one input. -/
def fnKeyEnvelopeMoreWrong : ChangeSpec := { name := "fnKeyEnvelopeMore", fn := fun _ => fun
  | [d1, d2, d3, d4] => { results := [.lit (.bool false)], args := [d1, d2, d3, d4] }
  | _ => none }
def FnKeyEnvelopeMoreWrongFalsely : Prop := fnKeyEnvelopeMoreRow.holds Tryd.pinned (OpenSpec.ofChange fnKeyEnvelopeMoreWrong)

/-- 'laws.FnKeyWithin': WHATEVER THE INPUT: true; the input reads as it did. -/
def fnKeyWithinSpec : ChangeSpec := { name := "fnKeyWithin", fn := fun _ => fun
  | [d1, d2] => { results := [.lit (.bool true)], args := [d1, d2] }
  | _ => none }
def fnKeyWithinRow : OpenClaim := { program := "ytipleaojejbkpaadoor", sum := "5057724bb11736309e696666749e84a351897cbc4e6a5c11fb6e9ad064c80168", func := "pub-symmory/laws.FnKeyWithin", spec := "fnKeyWithin", unfollowed := true, recurses := true, named := ["pub-symmory/pub/libp2p/core/crypto/pb.errRequired", "pub-symmory/pub/libp2p/core/record/pb.errNumber", "io.ErrUnexpectedEOF", "pub-symmory/pub/protowire.errFieldNumber", "pub-symmory/pub/protowire.errOverflow", "pub-symmory/pub/protowire.errReserved", "pub-symmory/pub/protowire.errEndGroup", "pub-symmory/pub/protowire.errParse", "pub-symmory/pub/libp2p/core/crypto/pb.errNumber", "pub-symmory/pub/libp2p/core/peer/pb.errNumber"], apart := false, laid := [("io.ErrUnexpectedEOF", laid_io_ErrUnexpectedEOF), ("pub-symmory/pub/protowire.errFieldNumber", laid_pub_symmory_pub_protowire_errFieldNumber), ("pub-symmory/pub/protowire.errOverflow", laid_pub_symmory_pub_protowire_errOverflow), ("pub-symmory/pub/protowire.errReserved", laid_pub_symmory_pub_protowire_errReserved), ("pub-symmory/pub/protowire.errEndGroup", laid_pub_symmory_pub_protowire_errEndGroup), ("pub-symmory/pub/protowire.errParse", laid_pub_symmory_pub_protowire_errParse), ("pub-symmory/pub/libp2p/core/crypto/pb.errNumber", laid_pub_symmory_pub_libp2p_core_crypto_pb_errNumber), ("pub-symmory/pub/libp2p/core/crypto/pb.errRequired", laid_pub_symmory_pub_libp2p_core_crypto_pb_errRequired), ("pub-symmory/pub/libp2p/core/peer/pb.errNumber", laid_pub_symmory_pub_libp2p_core_peer_pb_errNumber), ("pub-symmory/pub/libp2p/core/record/pb.errNumber", laid_pub_symmory_pub_libp2p_core_record_pb_errNumber)] }
def FnKeyWithinSaid : Prop := fnKeyWithinRow.holds Tryd.pinned (OpenSpec.ofChange fnKeyWithinSpec)

/-- ITS FALSE NEIGHBOUR: 'it returns false'. Refute it at one input. -/
def fnKeyWithinWrong : ChangeSpec := { name := "fnKeyWithin", fn := fun _ => fun
  | [d1, d2] => { results := [.lit (.bool false)], args := [d1, d2] }
  | _ => none }
def FnKeyWithinWrongFalsely : Prop := fnKeyWithinRow.holds Tryd.pinned (OpenSpec.ofChange fnKeyWithinWrong)

/- THE SECOND FORM. 'bulk': how many values and letters a reading holds, each counted each time it is reached (what is shared counts as often as it is met; a slice's spare places count too). A statement '..UptoSaid' is the law's where the arguments, and the package variables that the reading takes, are together of bulk at most 1048576: NARROWER than '..Said'. Prove '..Said' where nothing that the law and all that it calls make is longer than what came in: it says more and counts as full. Else prove '..UptoSaid'. A law counts once. -/
mutual
def uptoBulk {H : Type} : DataW H → Nat
  | .lit (.string bytes) => bytes.length + 1
  | .lit _ => 1
  | .nil => 1
  | .ptr d => uptoBulk d + 1
  | .slice elems spare => uptoBulkAll elems + uptoBulkAll spare + 1
  | .agg parts => uptoBulkAll parts + 1
  | .iface _ d => uptoBulk d + 1
  | .map entries => uptoBulkEntries entries + 1
  | .held _ => 1
def uptoBulkAll {H : Type} : List (DataW H) → Nat
  | [] => 0
  | d :: r => uptoBulk d + uptoBulkAll r
def uptoBulkEntries {H : Type} : List (Lit × DataW H) → Nat
  | [] => 0
  | x :: r => uptoBulkEntry x + uptoBulkEntries r
def uptoBulkEntry {H : Type} : Lit × DataW H → Nat
  | (.string bytes, d) => bytes.length + uptoBulk d + 1
  | (_, d) => uptoBulk d + 1
 end
def uptoSmall : (H : Type) → List (DataW H) → Bool := fun _ ds => decide (uptoBulkAll ds ≤ 1048576)
def OpenSpec.upto (s : _root_.Go.ChangeSpec) : _root_.Go.OpenSpec := { _root_.Go.OpenSpec.ofChange s with cond := some uptoSmall }

/-- 'laws.FnKeyName', WHERE WHAT IT READS IS OF BULK AT MOST 1048576: true; the input reads as it did. -/
def fnKeyNameUptoRow : OpenClaim := { program := "ytipleaojejbkpaadoor", sum := "5057724bb11736309e696666749e84a351897cbc4e6a5c11fb6e9ad064c80168", func := "pub-symmory/laws.FnKeyName", spec := "fnKeyName", named := ["internal/strconv.uint64pow10", "math/bits.deBruijn32tab", "math/bits.deBruijn64tab"], apart := false, laid := [("math/bits.deBruijn32tab", laid_math_bits_deBruijn32tab), ("math/bits.deBruijn64tab", laid_math_bits_deBruijn64tab), ("internal/strconv.uint64pow10", laid_internal_strconv_uint64pow10)], narrowed := true }
def FnKeyNameUptoSaid : Prop := fnKeyNameUptoRow.holds Tryd.pinned (OpenSpec.upto fnKeyNameSpec)

/-- 'laws.FnKeyRead', WHERE WHAT IT READS IS OF BULK AT MOST 1048576: true; the input reads as it did. -/
def fnKeyReadUptoRow : OpenClaim := { program := "ytipleaojejbkpaadoor", sum := "5057724bb11736309e696666749e84a351897cbc4e6a5c11fb6e9ad064c80168", func := "pub-symmory/laws.FnKeyRead", spec := "fnKeyRead", recurses := true, named := ["pub-symmory/pub/libp2p/core/crypto/pb.errRequired", "pub-symmory/pub/libp2p/core/crypto/pb.errNumber", "io.ErrUnexpectedEOF", "pub-symmory/pub/protowire.errFieldNumber", "pub-symmory/pub/protowire.errOverflow", "pub-symmory/pub/protowire.errReserved", "pub-symmory/pub/protowire.errEndGroup", "pub-symmory/pub/protowire.errParse"], apart := false, laid := [("io.ErrUnexpectedEOF", laid_io_ErrUnexpectedEOF), ("pub-symmory/pub/protowire.errFieldNumber", laid_pub_symmory_pub_protowire_errFieldNumber), ("pub-symmory/pub/protowire.errOverflow", laid_pub_symmory_pub_protowire_errOverflow), ("pub-symmory/pub/protowire.errReserved", laid_pub_symmory_pub_protowire_errReserved), ("pub-symmory/pub/protowire.errEndGroup", laid_pub_symmory_pub_protowire_errEndGroup), ("pub-symmory/pub/protowire.errParse", laid_pub_symmory_pub_protowire_errParse), ("pub-symmory/pub/libp2p/core/crypto/pb.errNumber", laid_pub_symmory_pub_libp2p_core_crypto_pb_errNumber), ("pub-symmory/pub/libp2p/core/crypto/pb.errRequired", laid_pub_symmory_pub_libp2p_core_crypto_pb_errRequired)], narrowed := true }
def FnKeyReadUptoSaid : Prop := fnKeyReadUptoRow.holds Tryd.pinned (OpenSpec.upto fnKeyReadSpec)

/-- 'laws.FnKeyLast', WHERE WHAT IT READS IS OF BULK AT MOST 1048576: true; the input reads as it did. -/
def fnKeyLastUptoRow : OpenClaim := { program := "ytipleaojejbkpaadoor", sum := "5057724bb11736309e696666749e84a351897cbc4e6a5c11fb6e9ad064c80168", func := "pub-symmory/laws.FnKeyLast", spec := "fnKeyLast", recurses := true, named := ["pub-symmory/pub/libp2p/core/crypto/pb.errRequired", "pub-symmory/pub/libp2p/core/crypto/pb.errNumber", "io.ErrUnexpectedEOF", "pub-symmory/pub/protowire.errFieldNumber", "pub-symmory/pub/protowire.errOverflow", "pub-symmory/pub/protowire.errReserved", "pub-symmory/pub/protowire.errEndGroup", "pub-symmory/pub/protowire.errParse"], apart := false, laid := [("io.ErrUnexpectedEOF", laid_io_ErrUnexpectedEOF), ("pub-symmory/pub/protowire.errFieldNumber", laid_pub_symmory_pub_protowire_errFieldNumber), ("pub-symmory/pub/protowire.errOverflow", laid_pub_symmory_pub_protowire_errOverflow), ("pub-symmory/pub/protowire.errReserved", laid_pub_symmory_pub_protowire_errReserved), ("pub-symmory/pub/protowire.errEndGroup", laid_pub_symmory_pub_protowire_errEndGroup), ("pub-symmory/pub/protowire.errParse", laid_pub_symmory_pub_protowire_errParse), ("pub-symmory/pub/libp2p/core/crypto/pb.errNumber", laid_pub_symmory_pub_libp2p_core_crypto_pb_errNumber), ("pub-symmory/pub/libp2p/core/crypto/pb.errRequired", laid_pub_symmory_pub_libp2p_core_crypto_pb_errRequired)], narrowed := true }
def FnKeyLastUptoSaid : Prop := fnKeyLastUptoRow.holds Tryd.pinned (OpenSpec.upto fnKeyLastSpec)

/-- 'laws.FnKeyMore', WHERE WHAT IT READS IS OF BULK AT MOST 1048576: true; the input reads as it did. -/
def fnKeyMoreUptoRow : OpenClaim := { program := "ytipleaojejbkpaadoor", sum := "5057724bb11736309e696666749e84a351897cbc4e6a5c11fb6e9ad064c80168", func := "pub-symmory/laws.FnKeyMore", spec := "fnKeyMore", recurses := true, named := ["pub-symmory/pub/libp2p/core/crypto/pb.errRequired", "pub-symmory/pub/libp2p/core/crypto/pb.errNumber", "io.ErrUnexpectedEOF", "pub-symmory/pub/protowire.errFieldNumber", "pub-symmory/pub/protowire.errOverflow", "pub-symmory/pub/protowire.errReserved", "pub-symmory/pub/protowire.errEndGroup", "pub-symmory/pub/protowire.errParse"], apart := false, laid := [("io.ErrUnexpectedEOF", laid_io_ErrUnexpectedEOF), ("pub-symmory/pub/protowire.errFieldNumber", laid_pub_symmory_pub_protowire_errFieldNumber), ("pub-symmory/pub/protowire.errOverflow", laid_pub_symmory_pub_protowire_errOverflow), ("pub-symmory/pub/protowire.errReserved", laid_pub_symmory_pub_protowire_errReserved), ("pub-symmory/pub/protowire.errEndGroup", laid_pub_symmory_pub_protowire_errEndGroup), ("pub-symmory/pub/protowire.errParse", laid_pub_symmory_pub_protowire_errParse), ("pub-symmory/pub/libp2p/core/crypto/pb.errNumber", laid_pub_symmory_pub_libp2p_core_crypto_pb_errNumber), ("pub-symmory/pub/libp2p/core/crypto/pb.errRequired", laid_pub_symmory_pub_libp2p_core_crypto_pb_errRequired)], narrowed := true }
def FnKeyMoreUptoSaid : Prop := fnKeyMoreUptoRow.holds Tryd.pinned (OpenSpec.upto fnKeyMoreSpec)

/-- 'laws.FnKeyWide', WHERE WHAT IT READS IS OF BULK AT MOST 1048576: true; the input reads as it did. -/
def fnKeyWideUptoRow : OpenClaim := { program := "ytipleaojejbkpaadoor", sum := "5057724bb11736309e696666749e84a351897cbc4e6a5c11fb6e9ad064c80168", func := "pub-symmory/laws.FnKeyWide", spec := "fnKeyWide", recurses := true, named := ["pub-symmory/pub/libp2p/core/crypto/pb.errRequired", "pub-symmory/pub/libp2p/core/crypto/pb.errNumber", "io.ErrUnexpectedEOF", "pub-symmory/pub/protowire.errFieldNumber", "pub-symmory/pub/protowire.errOverflow", "pub-symmory/pub/protowire.errReserved", "pub-symmory/pub/protowire.errEndGroup", "pub-symmory/pub/protowire.errParse"], apart := false, laid := [("io.ErrUnexpectedEOF", laid_io_ErrUnexpectedEOF), ("pub-symmory/pub/protowire.errFieldNumber", laid_pub_symmory_pub_protowire_errFieldNumber), ("pub-symmory/pub/protowire.errOverflow", laid_pub_symmory_pub_protowire_errOverflow), ("pub-symmory/pub/protowire.errReserved", laid_pub_symmory_pub_protowire_errReserved), ("pub-symmory/pub/protowire.errEndGroup", laid_pub_symmory_pub_protowire_errEndGroup), ("pub-symmory/pub/protowire.errParse", laid_pub_symmory_pub_protowire_errParse), ("pub-symmory/pub/libp2p/core/crypto/pb.errNumber", laid_pub_symmory_pub_libp2p_core_crypto_pb_errNumber), ("pub-symmory/pub/libp2p/core/crypto/pb.errRequired", laid_pub_symmory_pub_libp2p_core_crypto_pb_errRequired)], narrowed := true }
def FnKeyWideUptoSaid : Prop := fnKeyWideUptoRow.holds Tryd.pinned (OpenSpec.upto fnKeyWideSpec)

/-- 'laws.FnKeyRecordSize', WHERE WHAT IT READS IS OF BULK AT MOST 1048576: true; the input reads as it did. -/
def fnKeyRecordSizeUptoRow : OpenClaim := { program := "ytipleaojejbkpaadoor", sum := "5057724bb11736309e696666749e84a351897cbc4e6a5c11fb6e9ad064c80168", func := "pub-symmory/laws.FnKeyRecordSize", spec := "fnKeyRecordSize", unfollowed := true, recurses := true, named := ["pub-symmory/pub/libp2p/core/peer/pb.errNumber", "io.ErrUnexpectedEOF", "pub-symmory/pub/protowire.errFieldNumber", "pub-symmory/pub/protowire.errOverflow", "pub-symmory/pub/protowire.errReserved", "pub-symmory/pub/protowire.errEndGroup", "pub-symmory/pub/protowire.errParse"], apart := false, laid := [("io.ErrUnexpectedEOF", laid_io_ErrUnexpectedEOF), ("pub-symmory/pub/protowire.errFieldNumber", laid_pub_symmory_pub_protowire_errFieldNumber), ("pub-symmory/pub/protowire.errOverflow", laid_pub_symmory_pub_protowire_errOverflow), ("pub-symmory/pub/protowire.errReserved", laid_pub_symmory_pub_protowire_errReserved), ("pub-symmory/pub/protowire.errEndGroup", laid_pub_symmory_pub_protowire_errEndGroup), ("pub-symmory/pub/protowire.errParse", laid_pub_symmory_pub_protowire_errParse), ("pub-symmory/pub/libp2p/core/peer/pb.errNumber", laid_pub_symmory_pub_libp2p_core_peer_pb_errNumber)], narrowed := true }
def FnKeyRecordSizeUptoSaid : Prop := fnKeyRecordSizeUptoRow.holds Tryd.pinned (OpenSpec.upto fnKeyRecordSizeSpec)

/-- 'laws.FnKeyRecordRead', WHERE WHAT IT READS IS OF BULK AT MOST 1048576: true; the input reads as it did. -/
def fnKeyRecordReadUptoRow : OpenClaim := { program := "ytipleaojejbkpaadoor", sum := "5057724bb11736309e696666749e84a351897cbc4e6a5c11fb6e9ad064c80168", func := "pub-symmory/laws.FnKeyRecordRead", spec := "fnKeyRecordRead", unfollowed := true, recurses := true, named := ["pub-symmory/pub/libp2p/core/peer/pb.errNumber", "io.ErrUnexpectedEOF", "pub-symmory/pub/protowire.errFieldNumber", "pub-symmory/pub/protowire.errOverflow", "pub-symmory/pub/protowire.errReserved", "pub-symmory/pub/protowire.errEndGroup", "pub-symmory/pub/protowire.errParse"], apart := false, laid := [("io.ErrUnexpectedEOF", laid_io_ErrUnexpectedEOF), ("pub-symmory/pub/protowire.errFieldNumber", laid_pub_symmory_pub_protowire_errFieldNumber), ("pub-symmory/pub/protowire.errOverflow", laid_pub_symmory_pub_protowire_errOverflow), ("pub-symmory/pub/protowire.errReserved", laid_pub_symmory_pub_protowire_errReserved), ("pub-symmory/pub/protowire.errEndGroup", laid_pub_symmory_pub_protowire_errEndGroup), ("pub-symmory/pub/protowire.errParse", laid_pub_symmory_pub_protowire_errParse), ("pub-symmory/pub/libp2p/core/peer/pb.errNumber", laid_pub_symmory_pub_libp2p_core_peer_pb_errNumber)], narrowed := true }
def FnKeyRecordReadUptoSaid : Prop := fnKeyRecordReadUptoRow.holds Tryd.pinned (OpenSpec.upto fnKeyRecordReadSpec)

/-- 'laws.FnKeyAddressTorn', WHERE WHAT IT READS IS OF BULK AT MOST 1048576: true; the input reads as it did. -/
def fnKeyAddressTornUptoRow : OpenClaim := { program := "ytipleaojejbkpaadoor", sum := "5057724bb11736309e696666749e84a351897cbc4e6a5c11fb6e9ad064c80168", func := "pub-symmory/laws.FnKeyAddressTorn", spec := "fnKeyAddressTorn", unfollowed := true, recurses := true, named := ["pub-symmory/pub/libp2p/core/peer/pb.errNumber", "io.ErrUnexpectedEOF", "pub-symmory/pub/protowire.errFieldNumber", "pub-symmory/pub/protowire.errOverflow", "pub-symmory/pub/protowire.errReserved", "pub-symmory/pub/protowire.errEndGroup", "pub-symmory/pub/protowire.errParse"], apart := false, laid := [("io.ErrUnexpectedEOF", laid_io_ErrUnexpectedEOF), ("pub-symmory/pub/protowire.errFieldNumber", laid_pub_symmory_pub_protowire_errFieldNumber), ("pub-symmory/pub/protowire.errOverflow", laid_pub_symmory_pub_protowire_errOverflow), ("pub-symmory/pub/protowire.errReserved", laid_pub_symmory_pub_protowire_errReserved), ("pub-symmory/pub/protowire.errEndGroup", laid_pub_symmory_pub_protowire_errEndGroup), ("pub-symmory/pub/protowire.errParse", laid_pub_symmory_pub_protowire_errParse), ("pub-symmory/pub/libp2p/core/peer/pb.errNumber", laid_pub_symmory_pub_libp2p_core_peer_pb_errNumber)], narrowed := true }
def FnKeyAddressTornUptoSaid : Prop := fnKeyAddressTornUptoRow.holds Tryd.pinned (OpenSpec.upto fnKeyAddressTornSpec)

/-- 'laws.FnKeyRecordMore', WHERE WHAT IT READS IS OF BULK AT MOST 1048576: true; the input reads as it did. -/
def fnKeyRecordMoreUptoRow : OpenClaim := { program := "ytipleaojejbkpaadoor", sum := "5057724bb11736309e696666749e84a351897cbc4e6a5c11fb6e9ad064c80168", func := "pub-symmory/laws.FnKeyRecordMore", spec := "fnKeyRecordMore", unfollowed := true, recurses := true, named := ["pub-symmory/pub/libp2p/core/peer/pb.errNumber", "io.ErrUnexpectedEOF", "pub-symmory/pub/protowire.errFieldNumber", "pub-symmory/pub/protowire.errOverflow", "pub-symmory/pub/protowire.errReserved", "pub-symmory/pub/protowire.errEndGroup", "pub-symmory/pub/protowire.errParse"], apart := false, laid := [("io.ErrUnexpectedEOF", laid_io_ErrUnexpectedEOF), ("pub-symmory/pub/protowire.errFieldNumber", laid_pub_symmory_pub_protowire_errFieldNumber), ("pub-symmory/pub/protowire.errOverflow", laid_pub_symmory_pub_protowire_errOverflow), ("pub-symmory/pub/protowire.errReserved", laid_pub_symmory_pub_protowire_errReserved), ("pub-symmory/pub/protowire.errEndGroup", laid_pub_symmory_pub_protowire_errEndGroup), ("pub-symmory/pub/protowire.errParse", laid_pub_symmory_pub_protowire_errParse), ("pub-symmory/pub/libp2p/core/peer/pb.errNumber", laid_pub_symmory_pub_libp2p_core_peer_pb_errNumber)], narrowed := true }
def FnKeyRecordMoreUptoSaid : Prop := fnKeyRecordMoreUptoRow.holds Tryd.pinned (OpenSpec.upto fnKeyRecordMoreSpec)

/-- 'laws.FnKeyRecordTorn', WHERE WHAT IT READS IS OF BULK AT MOST 1048576: true; the input reads as it did. -/
def fnKeyRecordTornUptoRow : OpenClaim := { program := "ytipleaojejbkpaadoor", sum := "5057724bb11736309e696666749e84a351897cbc4e6a5c11fb6e9ad064c80168", func := "pub-symmory/laws.FnKeyRecordTorn", spec := "fnKeyRecordTorn", unfollowed := true, recurses := true, named := ["pub-symmory/pub/libp2p/core/peer/pb.errNumber", "io.ErrUnexpectedEOF", "pub-symmory/pub/protowire.errFieldNumber", "pub-symmory/pub/protowire.errOverflow", "pub-symmory/pub/protowire.errReserved", "pub-symmory/pub/protowire.errEndGroup", "pub-symmory/pub/protowire.errParse"], apart := false, laid := [("io.ErrUnexpectedEOF", laid_io_ErrUnexpectedEOF), ("pub-symmory/pub/protowire.errFieldNumber", laid_pub_symmory_pub_protowire_errFieldNumber), ("pub-symmory/pub/protowire.errOverflow", laid_pub_symmory_pub_protowire_errOverflow), ("pub-symmory/pub/protowire.errReserved", laid_pub_symmory_pub_protowire_errReserved), ("pub-symmory/pub/protowire.errEndGroup", laid_pub_symmory_pub_protowire_errEndGroup), ("pub-symmory/pub/protowire.errParse", laid_pub_symmory_pub_protowire_errParse), ("pub-symmory/pub/libp2p/core/peer/pb.errNumber", laid_pub_symmory_pub_libp2p_core_peer_pb_errNumber)], narrowed := true }
def FnKeyRecordTornUptoSaid : Prop := fnKeyRecordTornUptoRow.holds Tryd.pinned (OpenSpec.upto fnKeyRecordTornSpec)

/-- 'laws.FnKeyEnvelopeRead', WHERE WHAT IT READS IS OF BULK AT MOST 1048576: true; the input reads as it did. -/
def fnKeyEnvelopeReadUptoRow : OpenClaim := { program := "ytipleaojejbkpaadoor", sum := "5057724bb11736309e696666749e84a351897cbc4e6a5c11fb6e9ad064c80168", func := "pub-symmory/laws.FnKeyEnvelopeRead", spec := "fnKeyEnvelopeRead", recurses := true, named := ["pub-symmory/pub/libp2p/core/crypto/pb.errRequired", "pub-symmory/pub/libp2p/core/record/pb.errNumber", "io.ErrUnexpectedEOF", "pub-symmory/pub/protowire.errFieldNumber", "pub-symmory/pub/protowire.errOverflow", "pub-symmory/pub/protowire.errReserved", "pub-symmory/pub/protowire.errEndGroup", "pub-symmory/pub/protowire.errParse", "pub-symmory/pub/libp2p/core/crypto/pb.errNumber"], apart := false, laid := [("io.ErrUnexpectedEOF", laid_io_ErrUnexpectedEOF), ("pub-symmory/pub/protowire.errFieldNumber", laid_pub_symmory_pub_protowire_errFieldNumber), ("pub-symmory/pub/protowire.errOverflow", laid_pub_symmory_pub_protowire_errOverflow), ("pub-symmory/pub/protowire.errReserved", laid_pub_symmory_pub_protowire_errReserved), ("pub-symmory/pub/protowire.errEndGroup", laid_pub_symmory_pub_protowire_errEndGroup), ("pub-symmory/pub/protowire.errParse", laid_pub_symmory_pub_protowire_errParse), ("pub-symmory/pub/libp2p/core/crypto/pb.errNumber", laid_pub_symmory_pub_libp2p_core_crypto_pb_errNumber), ("pub-symmory/pub/libp2p/core/crypto/pb.errRequired", laid_pub_symmory_pub_libp2p_core_crypto_pb_errRequired), ("pub-symmory/pub/libp2p/core/record/pb.errNumber", laid_pub_symmory_pub_libp2p_core_record_pb_errNumber)], narrowed := true }
def FnKeyEnvelopeReadUptoSaid : Prop := fnKeyEnvelopeReadUptoRow.holds Tryd.pinned (OpenSpec.upto fnKeyEnvelopeReadSpec)

/-- 'laws.FnKeyEnvelopeJoined', WHERE WHAT IT READS IS OF BULK AT MOST 1048576: true; the input reads as it did. -/
def fnKeyEnvelopeJoinedUptoRow : OpenClaim := { program := "ytipleaojejbkpaadoor", sum := "5057724bb11736309e696666749e84a351897cbc4e6a5c11fb6e9ad064c80168", func := "pub-symmory/laws.FnKeyEnvelopeJoined", spec := "fnKeyEnvelopeJoined", recurses := true, named := ["pub-symmory/pub/libp2p/core/crypto/pb.errRequired", "pub-symmory/pub/libp2p/core/record/pb.errNumber", "io.ErrUnexpectedEOF", "pub-symmory/pub/protowire.errFieldNumber", "pub-symmory/pub/protowire.errOverflow", "pub-symmory/pub/protowire.errReserved", "pub-symmory/pub/protowire.errEndGroup", "pub-symmory/pub/protowire.errParse", "pub-symmory/pub/libp2p/core/crypto/pb.errNumber"], apart := false, laid := [("io.ErrUnexpectedEOF", laid_io_ErrUnexpectedEOF), ("pub-symmory/pub/protowire.errFieldNumber", laid_pub_symmory_pub_protowire_errFieldNumber), ("pub-symmory/pub/protowire.errOverflow", laid_pub_symmory_pub_protowire_errOverflow), ("pub-symmory/pub/protowire.errReserved", laid_pub_symmory_pub_protowire_errReserved), ("pub-symmory/pub/protowire.errEndGroup", laid_pub_symmory_pub_protowire_errEndGroup), ("pub-symmory/pub/protowire.errParse", laid_pub_symmory_pub_protowire_errParse), ("pub-symmory/pub/libp2p/core/crypto/pb.errNumber", laid_pub_symmory_pub_libp2p_core_crypto_pb_errNumber), ("pub-symmory/pub/libp2p/core/crypto/pb.errRequired", laid_pub_symmory_pub_libp2p_core_crypto_pb_errRequired), ("pub-symmory/pub/libp2p/core/record/pb.errNumber", laid_pub_symmory_pub_libp2p_core_record_pb_errNumber)], narrowed := true }
def FnKeyEnvelopeJoinedUptoSaid : Prop := fnKeyEnvelopeJoinedUptoRow.holds Tryd.pinned (OpenSpec.upto fnKeyEnvelopeJoinedSpec)

/-- 'laws.FnKeyEnvelopeMore', WHERE WHAT IT READS IS OF BULK AT MOST 1048576: true; the input reads as it did. -/
def fnKeyEnvelopeMoreUptoRow : OpenClaim := { program := "ytipleaojejbkpaadoor", sum := "5057724bb11736309e696666749e84a351897cbc4e6a5c11fb6e9ad064c80168", func := "pub-symmory/laws.FnKeyEnvelopeMore", spec := "fnKeyEnvelopeMore", recurses := true, named := ["pub-symmory/pub/libp2p/core/crypto/pb.errRequired", "pub-symmory/pub/libp2p/core/record/pb.errNumber", "io.ErrUnexpectedEOF", "pub-symmory/pub/protowire.errFieldNumber", "pub-symmory/pub/protowire.errOverflow", "pub-symmory/pub/protowire.errReserved", "pub-symmory/pub/protowire.errEndGroup", "pub-symmory/pub/protowire.errParse", "pub-symmory/pub/libp2p/core/crypto/pb.errNumber"], apart := false, laid := [("io.ErrUnexpectedEOF", laid_io_ErrUnexpectedEOF), ("pub-symmory/pub/protowire.errFieldNumber", laid_pub_symmory_pub_protowire_errFieldNumber), ("pub-symmory/pub/protowire.errOverflow", laid_pub_symmory_pub_protowire_errOverflow), ("pub-symmory/pub/protowire.errReserved", laid_pub_symmory_pub_protowire_errReserved), ("pub-symmory/pub/protowire.errEndGroup", laid_pub_symmory_pub_protowire_errEndGroup), ("pub-symmory/pub/protowire.errParse", laid_pub_symmory_pub_protowire_errParse), ("pub-symmory/pub/libp2p/core/crypto/pb.errNumber", laid_pub_symmory_pub_libp2p_core_crypto_pb_errNumber), ("pub-symmory/pub/libp2p/core/crypto/pb.errRequired", laid_pub_symmory_pub_libp2p_core_crypto_pb_errRequired), ("pub-symmory/pub/libp2p/core/record/pb.errNumber", laid_pub_symmory_pub_libp2p_core_record_pb_errNumber)], narrowed := true }
def FnKeyEnvelopeMoreUptoSaid : Prop := fnKeyEnvelopeMoreUptoRow.holds Tryd.pinned (OpenSpec.upto fnKeyEnvelopeMoreSpec)

/-- 'laws.FnKeyWithin', WHERE WHAT IT READS IS OF BULK AT MOST 1048576: true; the input reads as it did. -/
def fnKeyWithinUptoRow : OpenClaim := { program := "ytipleaojejbkpaadoor", sum := "5057724bb11736309e696666749e84a351897cbc4e6a5c11fb6e9ad064c80168", func := "pub-symmory/laws.FnKeyWithin", spec := "fnKeyWithin", unfollowed := true, recurses := true, named := ["pub-symmory/pub/libp2p/core/crypto/pb.errRequired", "pub-symmory/pub/libp2p/core/record/pb.errNumber", "io.ErrUnexpectedEOF", "pub-symmory/pub/protowire.errFieldNumber", "pub-symmory/pub/protowire.errOverflow", "pub-symmory/pub/protowire.errReserved", "pub-symmory/pub/protowire.errEndGroup", "pub-symmory/pub/protowire.errParse", "pub-symmory/pub/libp2p/core/crypto/pb.errNumber", "pub-symmory/pub/libp2p/core/peer/pb.errNumber"], apart := false, laid := [("io.ErrUnexpectedEOF", laid_io_ErrUnexpectedEOF), ("pub-symmory/pub/protowire.errFieldNumber", laid_pub_symmory_pub_protowire_errFieldNumber), ("pub-symmory/pub/protowire.errOverflow", laid_pub_symmory_pub_protowire_errOverflow), ("pub-symmory/pub/protowire.errReserved", laid_pub_symmory_pub_protowire_errReserved), ("pub-symmory/pub/protowire.errEndGroup", laid_pub_symmory_pub_protowire_errEndGroup), ("pub-symmory/pub/protowire.errParse", laid_pub_symmory_pub_protowire_errParse), ("pub-symmory/pub/libp2p/core/crypto/pb.errNumber", laid_pub_symmory_pub_libp2p_core_crypto_pb_errNumber), ("pub-symmory/pub/libp2p/core/crypto/pb.errRequired", laid_pub_symmory_pub_libp2p_core_crypto_pb_errRequired), ("pub-symmory/pub/libp2p/core/peer/pb.errNumber", laid_pub_symmory_pub_libp2p_core_peer_pb_errNumber), ("pub-symmory/pub/libp2p/core/record/pb.errNumber", laid_pub_symmory_pub_libp2p_core_record_pb_errNumber)], narrowed := true }
def FnKeyWithinUptoSaid : Prop := fnKeyWithinUptoRow.holds Tryd.pinned (OpenSpec.upto fnKeyWithinSpec)

end Rows
end Go.Proofs.YtipleaojejbkpaaDoor
