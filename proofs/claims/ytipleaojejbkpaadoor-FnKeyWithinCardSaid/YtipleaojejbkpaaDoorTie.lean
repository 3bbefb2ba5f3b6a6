/-
  DERIVED. GIVEN WITH THE SEED: THE PROGRAM's TIES (one call each: nine closed facts by the kernel) AND EACH ROW's TIE, after the 31st guide's Derived/Test/Toyas{Tie, Card}.lean. No idea stands in it: it is a product of the set-up. Laid BY PROGRAM, IN A SANDBOX (cutbox-door.mjs). By AI agents, Wed Nov 11 2026. No macro, syntax, notation, axiom, sorry.
-/
import Derived.Test.YtipleaojejbkpaaDoorRows
import Derived.LaidByTextLater
import Derived.SevenTiedAt
import Derived.LaidSub
import Derived.LaidOnce
namespace Go.Proofs.YtipleaojejbkpaaDoor
open Go
set_option maxRecDepth 100000
theorem seatTie1 : Tryd.prog.laidByTextLater [("math/bits.deBruijn32tab", Rows.laid_math_bits_deBruijn32tab), ("math/bits.deBruijn64tab", Rows.laid_math_bits_deBruijn64tab), ("internal/strconv.uint64pow10", Rows.laid_internal_strconv_uint64pow10), ("io.ErrUnexpectedEOF", Rows.laid_io_ErrUnexpectedEOF), ("pub-symmory/pub/protowire.errFieldNumber", Rows.laid_pub_symmory_pub_protowire_errFieldNumber), ("pub-symmory/pub/protowire.errOverflow", Rows.laid_pub_symmory_pub_protowire_errOverflow), ("pub-symmory/pub/protowire.errReserved", Rows.laid_pub_symmory_pub_protowire_errReserved), ("pub-symmory/pub/protowire.errEndGroup", Rows.laid_pub_symmory_pub_protowire_errEndGroup), ("pub-symmory/pub/protowire.errParse", Rows.laid_pub_symmory_pub_protowire_errParse), ("pub-symmory/pub/libp2p/core/crypto/pb.errNumber", Rows.laid_pub_symmory_pub_libp2p_core_crypto_pb_errNumber), ("pub-symmory/pub/libp2p/core/crypto/pb.errRequired", Rows.laid_pub_symmory_pub_libp2p_core_crypto_pb_errRequired), ("pub-symmory/pub/libp2p/core/peer/pb.errNumber", Rows.laid_pub_symmory_pub_libp2p_core_peer_pb_errNumber), ("pub-symmory/pub/libp2p/core/record/pb.errNumber", Rows.laid_pub_symmory_pub_libp2p_core_record_pb_errNumber)] [.data, .data, .data, .sentinel, .sentinel, .sentinel, .sentinel, .sentinel, .sentinel, .sentinel, .sentinel, .sentinel, .sentinel] true :=
  Program.laidByTextLater_by_one 214 8 65 (by kernel_rfl) (by kernel_rfl) (by kernel_rfl) (by kernel_rfl) (by kernel_rfl) (by kernel_rfl) (fun _ _ => by kernel_rfl)
theorem noOwnUnsafe : Tryd.pinned.checked.prog.headLifts.contains "ownunsafe" = false := by kernel_rfl
theorem tie : Tryd.prog.laidByTextLater [("math/bits.deBruijn32tab", Rows.laid_math_bits_deBruijn32tab), ("math/bits.deBruijn64tab", Rows.laid_math_bits_deBruijn64tab), ("internal/strconv.uint64pow10", Rows.laid_internal_strconv_uint64pow10)] [.data, .data, .data] true :=
  Program.laidByTextLater.sub seatTie1 ["math/bits.deBruijn32tab", "math/bits.deBruijn64tab", "internal/strconv.uint64pow10"] (by kernel_rfl) (by kernel_rfl)
theorem fnKeyName_row_tie : Rows.fnKeyNameRow.laidByTextAt .later Tryd.pinned [.data, .data, .data] true :=
  OpenClaim.laidByTextAt_later rfl rfl tie noOwnUnsafe
theorem tie2 : Tryd.prog.laidByTextLater [("io.ErrUnexpectedEOF", Rows.laid_io_ErrUnexpectedEOF), ("pub-symmory/pub/protowire.errFieldNumber", Rows.laid_pub_symmory_pub_protowire_errFieldNumber), ("pub-symmory/pub/protowire.errOverflow", Rows.laid_pub_symmory_pub_protowire_errOverflow), ("pub-symmory/pub/protowire.errReserved", Rows.laid_pub_symmory_pub_protowire_errReserved), ("pub-symmory/pub/protowire.errEndGroup", Rows.laid_pub_symmory_pub_protowire_errEndGroup), ("pub-symmory/pub/protowire.errParse", Rows.laid_pub_symmory_pub_protowire_errParse), ("pub-symmory/pub/libp2p/core/crypto/pb.errNumber", Rows.laid_pub_symmory_pub_libp2p_core_crypto_pb_errNumber), ("pub-symmory/pub/libp2p/core/crypto/pb.errRequired", Rows.laid_pub_symmory_pub_libp2p_core_crypto_pb_errRequired)] [.sentinel, .sentinel, .sentinel, .sentinel, .sentinel, .sentinel, .sentinel, .sentinel] true :=
  Program.laidByTextLater.sub seatTie1 ["io.ErrUnexpectedEOF", "pub-symmory/pub/protowire.errFieldNumber", "pub-symmory/pub/protowire.errOverflow", "pub-symmory/pub/protowire.errReserved", "pub-symmory/pub/protowire.errEndGroup", "pub-symmory/pub/protowire.errParse", "pub-symmory/pub/libp2p/core/crypto/pb.errNumber", "pub-symmory/pub/libp2p/core/crypto/pb.errRequired"] (by kernel_rfl) (by kernel_rfl)
theorem fnKeyRead_row_tie : Rows.fnKeyReadRow.laidByTextAt .later Tryd.pinned [.sentinel, .sentinel, .sentinel, .sentinel, .sentinel, .sentinel, .sentinel, .sentinel] true :=
  OpenClaim.laidByTextAt_later rfl rfl tie2 noOwnUnsafe
theorem fnKeyLast_row_tie : Rows.fnKeyLastRow.laidByTextAt .later Tryd.pinned [.sentinel, .sentinel, .sentinel, .sentinel, .sentinel, .sentinel, .sentinel, .sentinel] true :=
  OpenClaim.laidByTextAt_later rfl rfl tie2 noOwnUnsafe
theorem fnKeyMore_row_tie : Rows.fnKeyMoreRow.laidByTextAt .later Tryd.pinned [.sentinel, .sentinel, .sentinel, .sentinel, .sentinel, .sentinel, .sentinel, .sentinel] true :=
  OpenClaim.laidByTextAt_later rfl rfl tie2 noOwnUnsafe
theorem fnKeyWide_row_tie : Rows.fnKeyWideRow.laidByTextAt .later Tryd.pinned [.sentinel, .sentinel, .sentinel, .sentinel, .sentinel, .sentinel, .sentinel, .sentinel] true :=
  OpenClaim.laidByTextAt_later rfl rfl tie2 noOwnUnsafe
theorem tie3 : Tryd.prog.laidByTextLater [("io.ErrUnexpectedEOF", Rows.laid_io_ErrUnexpectedEOF), ("pub-symmory/pub/protowire.errFieldNumber", Rows.laid_pub_symmory_pub_protowire_errFieldNumber), ("pub-symmory/pub/protowire.errOverflow", Rows.laid_pub_symmory_pub_protowire_errOverflow), ("pub-symmory/pub/protowire.errReserved", Rows.laid_pub_symmory_pub_protowire_errReserved), ("pub-symmory/pub/protowire.errEndGroup", Rows.laid_pub_symmory_pub_protowire_errEndGroup), ("pub-symmory/pub/protowire.errParse", Rows.laid_pub_symmory_pub_protowire_errParse), ("pub-symmory/pub/libp2p/core/peer/pb.errNumber", Rows.laid_pub_symmory_pub_libp2p_core_peer_pb_errNumber)] [.sentinel, .sentinel, .sentinel, .sentinel, .sentinel, .sentinel, .sentinel] true :=
  Program.laidByTextLater.sub seatTie1 ["io.ErrUnexpectedEOF", "pub-symmory/pub/protowire.errFieldNumber", "pub-symmory/pub/protowire.errOverflow", "pub-symmory/pub/protowire.errReserved", "pub-symmory/pub/protowire.errEndGroup", "pub-symmory/pub/protowire.errParse", "pub-symmory/pub/libp2p/core/peer/pb.errNumber"] (by kernel_rfl) (by kernel_rfl)
theorem fnKeyRecordSize_row_tie : Rows.fnKeyRecordSizeRow.laidByTextAt .later Tryd.pinned [.sentinel, .sentinel, .sentinel, .sentinel, .sentinel, .sentinel, .sentinel] true :=
  OpenClaim.laidByTextAt_later rfl rfl tie3 noOwnUnsafe
theorem fnKeyRecordRead_row_tie : Rows.fnKeyRecordReadRow.laidByTextAt .later Tryd.pinned [.sentinel, .sentinel, .sentinel, .sentinel, .sentinel, .sentinel, .sentinel] true :=
  OpenClaim.laidByTextAt_later rfl rfl tie3 noOwnUnsafe
theorem fnKeyAddressTorn_row_tie : Rows.fnKeyAddressTornRow.laidByTextAt .later Tryd.pinned [.sentinel, .sentinel, .sentinel, .sentinel, .sentinel, .sentinel, .sentinel] true :=
  OpenClaim.laidByTextAt_later rfl rfl tie3 noOwnUnsafe
theorem fnKeyRecordMore_row_tie : Rows.fnKeyRecordMoreRow.laidByTextAt .later Tryd.pinned [.sentinel, .sentinel, .sentinel, .sentinel, .sentinel, .sentinel, .sentinel] true :=
  OpenClaim.laidByTextAt_later rfl rfl tie3 noOwnUnsafe
theorem fnKeyRecordTorn_row_tie : Rows.fnKeyRecordTornRow.laidByTextAt .later Tryd.pinned [.sentinel, .sentinel, .sentinel, .sentinel, .sentinel, .sentinel, .sentinel] true :=
  OpenClaim.laidByTextAt_later rfl rfl tie3 noOwnUnsafe
theorem tie4 : Tryd.prog.laidByTextLater [("io.ErrUnexpectedEOF", Rows.laid_io_ErrUnexpectedEOF), ("pub-symmory/pub/protowire.errFieldNumber", Rows.laid_pub_symmory_pub_protowire_errFieldNumber), ("pub-symmory/pub/protowire.errOverflow", Rows.laid_pub_symmory_pub_protowire_errOverflow), ("pub-symmory/pub/protowire.errReserved", Rows.laid_pub_symmory_pub_protowire_errReserved), ("pub-symmory/pub/protowire.errEndGroup", Rows.laid_pub_symmory_pub_protowire_errEndGroup), ("pub-symmory/pub/protowire.errParse", Rows.laid_pub_symmory_pub_protowire_errParse), ("pub-symmory/pub/libp2p/core/crypto/pb.errNumber", Rows.laid_pub_symmory_pub_libp2p_core_crypto_pb_errNumber), ("pub-symmory/pub/libp2p/core/crypto/pb.errRequired", Rows.laid_pub_symmory_pub_libp2p_core_crypto_pb_errRequired), ("pub-symmory/pub/libp2p/core/record/pb.errNumber", Rows.laid_pub_symmory_pub_libp2p_core_record_pb_errNumber)] [.sentinel, .sentinel, .sentinel, .sentinel, .sentinel, .sentinel, .sentinel, .sentinel, .sentinel] true :=
  Program.laidByTextLater.sub seatTie1 ["io.ErrUnexpectedEOF", "pub-symmory/pub/protowire.errFieldNumber", "pub-symmory/pub/protowire.errOverflow", "pub-symmory/pub/protowire.errReserved", "pub-symmory/pub/protowire.errEndGroup", "pub-symmory/pub/protowire.errParse", "pub-symmory/pub/libp2p/core/crypto/pb.errNumber", "pub-symmory/pub/libp2p/core/crypto/pb.errRequired", "pub-symmory/pub/libp2p/core/record/pb.errNumber"] (by kernel_rfl) (by kernel_rfl)
theorem fnKeyEnvelopeRead_row_tie : Rows.fnKeyEnvelopeReadRow.laidByTextAt .later Tryd.pinned [.sentinel, .sentinel, .sentinel, .sentinel, .sentinel, .sentinel, .sentinel, .sentinel, .sentinel] true :=
  OpenClaim.laidByTextAt_later rfl rfl tie4 noOwnUnsafe
theorem fnKeyEnvelopeJoined_row_tie : Rows.fnKeyEnvelopeJoinedRow.laidByTextAt .later Tryd.pinned [.sentinel, .sentinel, .sentinel, .sentinel, .sentinel, .sentinel, .sentinel, .sentinel, .sentinel] true :=
  OpenClaim.laidByTextAt_later rfl rfl tie4 noOwnUnsafe
theorem fnKeyEnvelopeMore_row_tie : Rows.fnKeyEnvelopeMoreRow.laidByTextAt .later Tryd.pinned [.sentinel, .sentinel, .sentinel, .sentinel, .sentinel, .sentinel, .sentinel, .sentinel, .sentinel] true :=
  OpenClaim.laidByTextAt_later rfl rfl tie4 noOwnUnsafe
theorem tie5 : Tryd.prog.laidByTextLater [("io.ErrUnexpectedEOF", Rows.laid_io_ErrUnexpectedEOF), ("pub-symmory/pub/protowire.errFieldNumber", Rows.laid_pub_symmory_pub_protowire_errFieldNumber), ("pub-symmory/pub/protowire.errOverflow", Rows.laid_pub_symmory_pub_protowire_errOverflow), ("pub-symmory/pub/protowire.errReserved", Rows.laid_pub_symmory_pub_protowire_errReserved), ("pub-symmory/pub/protowire.errEndGroup", Rows.laid_pub_symmory_pub_protowire_errEndGroup), ("pub-symmory/pub/protowire.errParse", Rows.laid_pub_symmory_pub_protowire_errParse), ("pub-symmory/pub/libp2p/core/crypto/pb.errNumber", Rows.laid_pub_symmory_pub_libp2p_core_crypto_pb_errNumber), ("pub-symmory/pub/libp2p/core/crypto/pb.errRequired", Rows.laid_pub_symmory_pub_libp2p_core_crypto_pb_errRequired), ("pub-symmory/pub/libp2p/core/peer/pb.errNumber", Rows.laid_pub_symmory_pub_libp2p_core_peer_pb_errNumber), ("pub-symmory/pub/libp2p/core/record/pb.errNumber", Rows.laid_pub_symmory_pub_libp2p_core_record_pb_errNumber)] [.sentinel, .sentinel, .sentinel, .sentinel, .sentinel, .sentinel, .sentinel, .sentinel, .sentinel, .sentinel] true :=
  Program.laidByTextLater.sub seatTie1 ["io.ErrUnexpectedEOF", "pub-symmory/pub/protowire.errFieldNumber", "pub-symmory/pub/protowire.errOverflow", "pub-symmory/pub/protowire.errReserved", "pub-symmory/pub/protowire.errEndGroup", "pub-symmory/pub/protowire.errParse", "pub-symmory/pub/libp2p/core/crypto/pb.errNumber", "pub-symmory/pub/libp2p/core/crypto/pb.errRequired", "pub-symmory/pub/libp2p/core/peer/pb.errNumber", "pub-symmory/pub/libp2p/core/record/pb.errNumber"] (by kernel_rfl) (by kernel_rfl)
theorem fnKeyWithin_row_tie : Rows.fnKeyWithinRow.laidByTextAt .later Tryd.pinned [.sentinel, .sentinel, .sentinel, .sentinel, .sentinel, .sentinel, .sentinel, .sentinel, .sentinel, .sentinel] true :=
  OpenClaim.laidByTextAt_later rfl rfl tie5 noOwnUnsafe
theorem fnKeyNameUpto_row_tie : Rows.fnKeyNameUptoRow.laidByTextAt .later Tryd.pinned [.data, .data, .data] true :=
  OpenClaim.laidByTextAt_later rfl rfl tie noOwnUnsafe
theorem fnKeyReadUpto_row_tie : Rows.fnKeyReadUptoRow.laidByTextAt .later Tryd.pinned [.sentinel, .sentinel, .sentinel, .sentinel, .sentinel, .sentinel, .sentinel, .sentinel] true :=
  OpenClaim.laidByTextAt_later rfl rfl tie2 noOwnUnsafe
theorem fnKeyLastUpto_row_tie : Rows.fnKeyLastUptoRow.laidByTextAt .later Tryd.pinned [.sentinel, .sentinel, .sentinel, .sentinel, .sentinel, .sentinel, .sentinel, .sentinel] true :=
  OpenClaim.laidByTextAt_later rfl rfl tie2 noOwnUnsafe
theorem fnKeyMoreUpto_row_tie : Rows.fnKeyMoreUptoRow.laidByTextAt .later Tryd.pinned [.sentinel, .sentinel, .sentinel, .sentinel, .sentinel, .sentinel, .sentinel, .sentinel] true :=
  OpenClaim.laidByTextAt_later rfl rfl tie2 noOwnUnsafe
theorem fnKeyWideUpto_row_tie : Rows.fnKeyWideUptoRow.laidByTextAt .later Tryd.pinned [.sentinel, .sentinel, .sentinel, .sentinel, .sentinel, .sentinel, .sentinel, .sentinel] true :=
  OpenClaim.laidByTextAt_later rfl rfl tie2 noOwnUnsafe
theorem fnKeyRecordSizeUpto_row_tie : Rows.fnKeyRecordSizeUptoRow.laidByTextAt .later Tryd.pinned [.sentinel, .sentinel, .sentinel, .sentinel, .sentinel, .sentinel, .sentinel] true :=
  OpenClaim.laidByTextAt_later rfl rfl tie3 noOwnUnsafe
theorem fnKeyRecordReadUpto_row_tie : Rows.fnKeyRecordReadUptoRow.laidByTextAt .later Tryd.pinned [.sentinel, .sentinel, .sentinel, .sentinel, .sentinel, .sentinel, .sentinel] true :=
  OpenClaim.laidByTextAt_later rfl rfl tie3 noOwnUnsafe
theorem fnKeyAddressTornUpto_row_tie : Rows.fnKeyAddressTornUptoRow.laidByTextAt .later Tryd.pinned [.sentinel, .sentinel, .sentinel, .sentinel, .sentinel, .sentinel, .sentinel] true :=
  OpenClaim.laidByTextAt_later rfl rfl tie3 noOwnUnsafe
theorem fnKeyRecordMoreUpto_row_tie : Rows.fnKeyRecordMoreUptoRow.laidByTextAt .later Tryd.pinned [.sentinel, .sentinel, .sentinel, .sentinel, .sentinel, .sentinel, .sentinel] true :=
  OpenClaim.laidByTextAt_later rfl rfl tie3 noOwnUnsafe
theorem fnKeyRecordTornUpto_row_tie : Rows.fnKeyRecordTornUptoRow.laidByTextAt .later Tryd.pinned [.sentinel, .sentinel, .sentinel, .sentinel, .sentinel, .sentinel, .sentinel] true :=
  OpenClaim.laidByTextAt_later rfl rfl tie3 noOwnUnsafe
theorem fnKeyEnvelopeReadUpto_row_tie : Rows.fnKeyEnvelopeReadUptoRow.laidByTextAt .later Tryd.pinned [.sentinel, .sentinel, .sentinel, .sentinel, .sentinel, .sentinel, .sentinel, .sentinel, .sentinel] true :=
  OpenClaim.laidByTextAt_later rfl rfl tie4 noOwnUnsafe
theorem fnKeyEnvelopeJoinedUpto_row_tie : Rows.fnKeyEnvelopeJoinedUptoRow.laidByTextAt .later Tryd.pinned [.sentinel, .sentinel, .sentinel, .sentinel, .sentinel, .sentinel, .sentinel, .sentinel, .sentinel] true :=
  OpenClaim.laidByTextAt_later rfl rfl tie4 noOwnUnsafe
theorem fnKeyEnvelopeMoreUpto_row_tie : Rows.fnKeyEnvelopeMoreUptoRow.laidByTextAt .later Tryd.pinned [.sentinel, .sentinel, .sentinel, .sentinel, .sentinel, .sentinel, .sentinel, .sentinel, .sentinel] true :=
  OpenClaim.laidByTextAt_later rfl rfl tie4 noOwnUnsafe
theorem fnKeyWithinUpto_row_tie : Rows.fnKeyWithinUptoRow.laidByTextAt .later Tryd.pinned [.sentinel, .sentinel, .sentinel, .sentinel, .sentinel, .sentinel, .sentinel, .sentinel, .sentinel, .sentinel] true :=
  OpenClaim.laidByTextAt_later rfl rfl tie5 noOwnUnsafe
end Go.Proofs.YtipleaojejbkpaaDoor
