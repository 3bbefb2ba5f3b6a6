/-
  DERIVED. GIVEN WITH THE SEED: THE PROGRAM's TIES (one call each: nine closed facts by the kernel) AND EACH ROW's TIE, after the 31st guide's Derived/Test/Toyas{Tie, Card}.lean. No idea stands in it: it is a product of the set-up. Laid BY PROGRAM, IN A SANDBOX (cutbox-door.mjs). By AI agents, Wed Nov 11 2026. No macro, syntax, notation, axiom, sorry.
-/
import Derived.Test.YtddofkeajinjpaaDoorRows
import Derived.LaidByTextLater
import Derived.SevenTiedAt
import Derived.LaidSub
import Derived.LaidOnce
namespace Go.Proofs.YtddofkeajinjpaaDoor
open Go
set_option maxRecDepth 100000
theorem seatTie1 : Tryd.prog.laidByTextLater [("io.ErrUnexpectedEOF", Rows.laid_io_ErrUnexpectedEOF), ("pub-symmory/pub/protowire.errFieldNumber", Rows.laid_pub_symmory_pub_protowire_errFieldNumber), ("pub-symmory/pub/protowire.errOverflow", Rows.laid_pub_symmory_pub_protowire_errOverflow), ("pub-symmory/pub/protowire.errReserved", Rows.laid_pub_symmory_pub_protowire_errReserved), ("pub-symmory/pub/protowire.errEndGroup", Rows.laid_pub_symmory_pub_protowire_errEndGroup), ("pub-symmory/pub/protowire.errParse", Rows.laid_pub_symmory_pub_protowire_errParse), ("pub-symmory/pub/libp2p/core/crypto/pb.errNumber", Rows.laid_pub_symmory_pub_libp2p_core_crypto_pb_errNumber), ("pub-symmory/pub/libp2p/core/crypto/pb.errRequired", Rows.laid_pub_symmory_pub_libp2p_core_crypto_pb_errRequired), ("pub-symmory/pub/libp2p/core/record/pb.errNumber", Rows.laid_pub_symmory_pub_libp2p_core_record_pb_errNumber), ("pub-symmory/pub/libp2p/core/crypto.ErrBadKeyType", Rows.laid_pub_symmory_pub_libp2p_core_crypto_ErrBadKeyType), ("pub-symmory/pub/libp2p/core/record.ErrEmptyDomain", Rows.laid_pub_symmory_pub_libp2p_core_record_ErrEmptyDomain), ("pub-symmory/pub/libp2p/core/record.ErrEmptyPayloadType", Rows.laid_pub_symmory_pub_libp2p_core_record_ErrEmptyPayloadType), ("pub-symmory/pub/libp2p/core/record.ErrInvalidSignature", Rows.laid_pub_symmory_pub_libp2p_core_record_ErrInvalidSignature)] [.sentinel, .sentinel, .sentinel, .sentinel, .sentinel, .sentinel, .sentinel, .sentinel, .sentinel, .sentinel, .sentinel, .sentinel, .sentinel] true :=
  Program.laidByTextLater_by_one 261 8 65 (by kernel_rfl) (by kernel_rfl) (by kernel_rfl) (by kernel_rfl) (by kernel_rfl) (by kernel_rfl) (fun _ _ => by kernel_rfl)
theorem noOwnUnsafe : Tryd.pinned.checked.prog.headLifts.contains "ownunsafe" = false := by kernel_rfl
theorem tie : Tryd.prog.laidByTextLater [("io.ErrUnexpectedEOF", Rows.laid_io_ErrUnexpectedEOF), ("pub-symmory/pub/protowire.errFieldNumber", Rows.laid_pub_symmory_pub_protowire_errFieldNumber), ("pub-symmory/pub/protowire.errOverflow", Rows.laid_pub_symmory_pub_protowire_errOverflow), ("pub-symmory/pub/protowire.errReserved", Rows.laid_pub_symmory_pub_protowire_errReserved), ("pub-symmory/pub/protowire.errEndGroup", Rows.laid_pub_symmory_pub_protowire_errEndGroup), ("pub-symmory/pub/protowire.errParse", Rows.laid_pub_symmory_pub_protowire_errParse), ("pub-symmory/pub/libp2p/core/crypto/pb.errNumber", Rows.laid_pub_symmory_pub_libp2p_core_crypto_pb_errNumber), ("pub-symmory/pub/libp2p/core/crypto/pb.errRequired", Rows.laid_pub_symmory_pub_libp2p_core_crypto_pb_errRequired), ("pub-symmory/pub/libp2p/core/record/pb.errNumber", Rows.laid_pub_symmory_pub_libp2p_core_record_pb_errNumber), ("pub-symmory/pub/libp2p/core/crypto.ErrBadKeyType", Rows.laid_pub_symmory_pub_libp2p_core_crypto_ErrBadKeyType), ("pub-symmory/pub/libp2p/core/record.ErrEmptyDomain", Rows.laid_pub_symmory_pub_libp2p_core_record_ErrEmptyDomain), ("pub-symmory/pub/libp2p/core/record.ErrEmptyPayloadType", Rows.laid_pub_symmory_pub_libp2p_core_record_ErrEmptyPayloadType), ("pub-symmory/pub/libp2p/core/record.ErrInvalidSignature", Rows.laid_pub_symmory_pub_libp2p_core_record_ErrInvalidSignature)] [.sentinel, .sentinel, .sentinel, .sentinel, .sentinel, .sentinel, .sentinel, .sentinel, .sentinel, .sentinel, .sentinel, .sentinel, .sentinel] true :=
  Program.laidByTextLater.sub seatTie1 ["io.ErrUnexpectedEOF", "pub-symmory/pub/protowire.errFieldNumber", "pub-symmory/pub/protowire.errOverflow", "pub-symmory/pub/protowire.errReserved", "pub-symmory/pub/protowire.errEndGroup", "pub-symmory/pub/protowire.errParse", "pub-symmory/pub/libp2p/core/crypto/pb.errNumber", "pub-symmory/pub/libp2p/core/crypto/pb.errRequired", "pub-symmory/pub/libp2p/core/record/pb.errNumber", "pub-symmory/pub/libp2p/core/crypto.ErrBadKeyType", "pub-symmory/pub/libp2p/core/record.ErrEmptyDomain", "pub-symmory/pub/libp2p/core/record.ErrEmptyPayloadType", "pub-symmory/pub/libp2p/core/record.ErrInvalidSignature"] (by kernel_rfl) (by kernel_rfl)
theorem fnRecordNoKey_row_tie : Rows.fnRecordNoKeyRow.laidByTextAt .later Tryd.pinned [.sentinel, .sentinel, .sentinel, .sentinel, .sentinel, .sentinel, .sentinel, .sentinel, .sentinel, .sentinel, .sentinel, .sentinel, .sentinel] true :=
  OpenClaim.laidByTextAt_later rfl rfl tie noOwnUnsafe
theorem fnRecordTurned_row_tie : Rows.fnRecordTurnedRow.laidByTextAt .later Tryd.pinned [.sentinel, .sentinel, .sentinel, .sentinel, .sentinel, .sentinel, .sentinel, .sentinel, .sentinel, .sentinel, .sentinel, .sentinel, .sentinel] true :=
  OpenClaim.laidByTextAt_later rfl rfl tie noOwnUnsafe
theorem fnRecordVerified_row_tie : Rows.fnRecordVerifiedRow.laidByTextAt .later Tryd.pinned [.sentinel, .sentinel, .sentinel, .sentinel, .sentinel, .sentinel, .sentinel, .sentinel, .sentinel, .sentinel, .sentinel, .sentinel, .sentinel] true :=
  OpenClaim.laidByTextAt_later rfl rfl tie noOwnUnsafe
theorem fnRecordUnsigned_row_tie : Rows.fnRecordUnsignedRow.laidByTextAt .later Tryd.pinned [.sentinel, .sentinel, .sentinel, .sentinel, .sentinel, .sentinel, .sentinel, .sentinel, .sentinel, .sentinel, .sentinel, .sentinel, .sentinel] true :=
  OpenClaim.laidByTextAt_later rfl rfl tie noOwnUnsafe
theorem fnRecordOpened_row_tie : Rows.fnRecordOpenedRow.laidByTextAt .later Tryd.pinned [.sentinel, .sentinel, .sentinel, .sentinel, .sentinel, .sentinel, .sentinel, .sentinel, .sentinel, .sentinel, .sentinel, .sentinel, .sentinel] true :=
  OpenClaim.laidByTextAt_later rfl rfl tie noOwnUnsafe
theorem fnRecordTwice_row_tie : Rows.fnRecordTwiceRow.laidByTextAt .later Tryd.pinned [.sentinel, .sentinel, .sentinel, .sentinel, .sentinel, .sentinel, .sentinel, .sentinel, .sentinel, .sentinel, .sentinel, .sentinel, .sentinel] true :=
  OpenClaim.laidByTextAt_later rfl rfl tie noOwnUnsafe
theorem fnRecordSame_row_tie : Rows.fnRecordSameRow.laidByTextAt .later Tryd.pinned [.sentinel, .sentinel, .sentinel, .sentinel, .sentinel, .sentinel, .sentinel, .sentinel, .sentinel, .sentinel, .sentinel, .sentinel, .sentinel] true :=
  OpenClaim.laidByTextAt_later rfl rfl tie noOwnUnsafe
theorem fnRecordNoKeyUpto_row_tie : Rows.fnRecordNoKeyUptoRow.laidByTextAt .later Tryd.pinned [.sentinel, .sentinel, .sentinel, .sentinel, .sentinel, .sentinel, .sentinel, .sentinel, .sentinel, .sentinel, .sentinel, .sentinel, .sentinel] true :=
  OpenClaim.laidByTextAt_later rfl rfl tie noOwnUnsafe
theorem fnRecordTurnedUpto_row_tie : Rows.fnRecordTurnedUptoRow.laidByTextAt .later Tryd.pinned [.sentinel, .sentinel, .sentinel, .sentinel, .sentinel, .sentinel, .sentinel, .sentinel, .sentinel, .sentinel, .sentinel, .sentinel, .sentinel] true :=
  OpenClaim.laidByTextAt_later rfl rfl tie noOwnUnsafe
theorem fnRecordVerifiedUpto_row_tie : Rows.fnRecordVerifiedUptoRow.laidByTextAt .later Tryd.pinned [.sentinel, .sentinel, .sentinel, .sentinel, .sentinel, .sentinel, .sentinel, .sentinel, .sentinel, .sentinel, .sentinel, .sentinel, .sentinel] true :=
  OpenClaim.laidByTextAt_later rfl rfl tie noOwnUnsafe
theorem fnRecordUnsignedUpto_row_tie : Rows.fnRecordUnsignedUptoRow.laidByTextAt .later Tryd.pinned [.sentinel, .sentinel, .sentinel, .sentinel, .sentinel, .sentinel, .sentinel, .sentinel, .sentinel, .sentinel, .sentinel, .sentinel, .sentinel] true :=
  OpenClaim.laidByTextAt_later rfl rfl tie noOwnUnsafe
theorem fnRecordOpenedUpto_row_tie : Rows.fnRecordOpenedUptoRow.laidByTextAt .later Tryd.pinned [.sentinel, .sentinel, .sentinel, .sentinel, .sentinel, .sentinel, .sentinel, .sentinel, .sentinel, .sentinel, .sentinel, .sentinel, .sentinel] true :=
  OpenClaim.laidByTextAt_later rfl rfl tie noOwnUnsafe
theorem fnRecordTwiceUpto_row_tie : Rows.fnRecordTwiceUptoRow.laidByTextAt .later Tryd.pinned [.sentinel, .sentinel, .sentinel, .sentinel, .sentinel, .sentinel, .sentinel, .sentinel, .sentinel, .sentinel, .sentinel, .sentinel, .sentinel] true :=
  OpenClaim.laidByTextAt_later rfl rfl tie noOwnUnsafe
theorem fnRecordSameUpto_row_tie : Rows.fnRecordSameUptoRow.laidByTextAt .later Tryd.pinned [.sentinel, .sentinel, .sentinel, .sentinel, .sentinel, .sentinel, .sentinel, .sentinel, .sentinel, .sentinel, .sentinel, .sentinel, .sentinel] true :=
  OpenClaim.laidByTextAt_later rfl rfl tie noOwnUnsafe
end Go.Proofs.YtddofkeajinjpaaDoor
