/-
  DERIVED. GIVEN WITH THE SEED: THE PROGRAM's TIES (one call each: nine closed facts by the kernel) AND EACH ROW's TIE, after the 31st guide's Derived/Test/Toyas{Tie, Card}.lean. No idea stands in it: it is a product of the set-up. Laid BY PROGRAM, IN A SANDBOX (cutbox-door.mjs). By AI agents, Wed Nov 11 2026. No macro, syntax, notation, axiom, sorry.
-/
import Derived.Test.YtnbpliccenanpaaDoorRows
import Derived.LaidByTextLater
import Derived.SevenTiedAt
import Derived.LaidSub
import Derived.LaidOnce
namespace Go.Proofs.YtnbpliccenanpaaDoor
open Go
set_option maxRecDepth 100000
theorem seatTie1 : Tryd.prog.laidByTextLater [("pub-symmory/pub/libp2p/core/crypto/pb.errRequired", Rows.laid_pub_symmory_pub_libp2p_core_crypto_pb_errRequired), ("pub-symmory/pub/govarint.ErrOverflow", Rows.laid_pub_symmory_pub_govarint_ErrOverflow), ("pub-symmory/pub/govarint.ErrUnderflow", Rows.laid_pub_symmory_pub_govarint_ErrUnderflow), ("pub-symmory/pub/govarint.ErrNotMinimal", Rows.laid_pub_symmory_pub_govarint_ErrNotMinimal), ("pub-symmory/pub/gomultihash/core.ErrSumNotSupported", Rows.laid_pub_symmory_pub_gomultihash_core_ErrSumNotSupported), ("pub-symmory/pub/gomultihash/core.ErrLenTooLarge", Rows.laid_pub_symmory_pub_gomultihash_core_ErrLenTooLarge), ("pub-symmory/pub/gomultihash.ErrTooShort", Rows.laid_pub_symmory_pub_gomultihash_ErrTooShort), ("pub-symmory/pub/gomultihash.ErrVarintBufferShort", Rows.laid_pub_symmory_pub_gomultihash_ErrVarintBufferShort), ("pub-symmory/pub/gomultihash.ErrVarintTooLong", Rows.laid_pub_symmory_pub_gomultihash_ErrVarintTooLong), ("pub-symmory/pub/libp2p/core/crypto.ErrBadKeyType", Rows.laid_pub_symmory_pub_libp2p_core_crypto_ErrBadKeyType)] [.sentinel, .sentinel, .sentinel, .sentinel, .sentinel, .sentinel, .sentinel, .sentinel, .sentinel, .sentinel] true :=
  Program.laidByTextLater_by_one 223 8 65 (by kernel_rfl) (by kernel_rfl) (by kernel_rfl) (by kernel_rfl) (by kernel_rfl) (by kernel_rfl) (fun _ _ => by kernel_rfl)
theorem noOwnUnsafe : Tryd.pinned.checked.prog.headLifts.contains "ownunsafe" = false := by kernel_rfl
theorem tie : Tryd.prog.laidByTextLater [("pub-symmory/pub/govarint.ErrOverflow", Rows.laid_pub_symmory_pub_govarint_ErrOverflow), ("pub-symmory/pub/govarint.ErrUnderflow", Rows.laid_pub_symmory_pub_govarint_ErrUnderflow), ("pub-symmory/pub/govarint.ErrNotMinimal", Rows.laid_pub_symmory_pub_govarint_ErrNotMinimal), ("pub-symmory/pub/gomultihash.ErrTooShort", Rows.laid_pub_symmory_pub_gomultihash_ErrTooShort), ("pub-symmory/pub/gomultihash.ErrVarintBufferShort", Rows.laid_pub_symmory_pub_gomultihash_ErrVarintBufferShort), ("pub-symmory/pub/gomultihash.ErrVarintTooLong", Rows.laid_pub_symmory_pub_gomultihash_ErrVarintTooLong)] [.sentinel, .sentinel, .sentinel, .sentinel, .sentinel, .sentinel] true :=
  Program.laidByTextLater.sub seatTie1 ["pub-symmory/pub/govarint.ErrOverflow", "pub-symmory/pub/govarint.ErrUnderflow", "pub-symmory/pub/govarint.ErrNotMinimal", "pub-symmory/pub/gomultihash.ErrTooShort", "pub-symmory/pub/gomultihash.ErrVarintBufferShort", "pub-symmory/pub/gomultihash.ErrVarintTooLong"] (by kernel_rfl) (by kernel_rfl)
theorem fnPeerCast_row_tie : Rows.fnPeerCastRow.laidByTextAt .later Tryd.pinned [.sentinel, .sentinel, .sentinel, .sentinel, .sentinel, .sentinel] true :=
  OpenClaim.laidByTextAt_later rfl rfl tie noOwnUnsafe
theorem fnPeerText_row_tie : Rows.fnPeerTextRow.laidByTextAt .later Tryd.pinned [.sentinel, .sentinel, .sentinel, .sentinel, .sentinel, .sentinel] true :=
  OpenClaim.laidByTextAt_later rfl rfl tie noOwnUnsafe
theorem fnPeerShort_row_tie : Rows.fnPeerShortRow.laidByTextAt .later Tryd.pinned [.sentinel, .sentinel, .sentinel, .sentinel, .sentinel, .sentinel] true :=
  OpenClaim.laidByTextAt_later rfl rfl tie noOwnUnsafe
theorem fnPeerOtherCid_row_tie : Rows.fnPeerOtherCidRow.laidByTextAt .later Tryd.pinned [.sentinel, .sentinel, .sentinel, .sentinel, .sentinel, .sentinel] true :=
  OpenClaim.laidByTextAt_later rfl rfl tie noOwnUnsafe
theorem fnPeerOrders_row_tie : Rows.fnPeerOrdersRow.laidByTextAt .later Tryd.pinned [.sentinel, .sentinel, .sentinel, .sentinel, .sentinel, .sentinel] true :=
  OpenClaim.laidByTextAt_later rfl rfl tie noOwnUnsafe
theorem fnPeerSorted_row_tie : Rows.fnPeerSortedRow.laidByTextAt .later Tryd.pinned [.sentinel, .sentinel, .sentinel, .sentinel, .sentinel, .sentinel] true :=
  OpenClaim.laidByTextAt_later rfl rfl tie noOwnUnsafe
theorem tie2 : Tryd.prog.laidByTextLater [("pub-symmory/pub/libp2p/core/crypto/pb.errRequired", Rows.laid_pub_symmory_pub_libp2p_core_crypto_pb_errRequired), ("pub-symmory/pub/govarint.ErrOverflow", Rows.laid_pub_symmory_pub_govarint_ErrOverflow), ("pub-symmory/pub/govarint.ErrUnderflow", Rows.laid_pub_symmory_pub_govarint_ErrUnderflow), ("pub-symmory/pub/govarint.ErrNotMinimal", Rows.laid_pub_symmory_pub_govarint_ErrNotMinimal), ("pub-symmory/pub/gomultihash/core.ErrSumNotSupported", Rows.laid_pub_symmory_pub_gomultihash_core_ErrSumNotSupported), ("pub-symmory/pub/gomultihash/core.ErrLenTooLarge", Rows.laid_pub_symmory_pub_gomultihash_core_ErrLenTooLarge), ("pub-symmory/pub/gomultihash.ErrTooShort", Rows.laid_pub_symmory_pub_gomultihash_ErrTooShort), ("pub-symmory/pub/gomultihash.ErrVarintBufferShort", Rows.laid_pub_symmory_pub_gomultihash_ErrVarintBufferShort), ("pub-symmory/pub/gomultihash.ErrVarintTooLong", Rows.laid_pub_symmory_pub_gomultihash_ErrVarintTooLong), ("pub-symmory/pub/libp2p/core/crypto.ErrBadKeyType", Rows.laid_pub_symmory_pub_libp2p_core_crypto_ErrBadKeyType)] [.sentinel, .sentinel, .sentinel, .sentinel, .sentinel, .sentinel, .sentinel, .sentinel, .sentinel, .sentinel] true :=
  Program.laidByTextLater.sub seatTie1 ["pub-symmory/pub/libp2p/core/crypto/pb.errRequired", "pub-symmory/pub/govarint.ErrOverflow", "pub-symmory/pub/govarint.ErrUnderflow", "pub-symmory/pub/govarint.ErrNotMinimal", "pub-symmory/pub/gomultihash/core.ErrSumNotSupported", "pub-symmory/pub/gomultihash/core.ErrLenTooLarge", "pub-symmory/pub/gomultihash.ErrTooShort", "pub-symmory/pub/gomultihash.ErrVarintBufferShort", "pub-symmory/pub/gomultihash.ErrVarintTooLong", "pub-symmory/pub/libp2p/core/crypto.ErrBadKeyType"] (by kernel_rfl) (by kernel_rfl)
theorem fnPeerEdge_row_tie : Rows.fnPeerEdgeRow.laidByTextAt .later Tryd.pinned [.sentinel, .sentinel, .sentinel, .sentinel, .sentinel, .sentinel, .sentinel, .sentinel, .sentinel, .sentinel] true :=
  OpenClaim.laidByTextAt_later rfl rfl tie2 noOwnUnsafe
theorem fnPeerCastUpto_row_tie : Rows.fnPeerCastUptoRow.laidByTextAt .later Tryd.pinned [.sentinel, .sentinel, .sentinel, .sentinel, .sentinel, .sentinel] true :=
  OpenClaim.laidByTextAt_later rfl rfl tie noOwnUnsafe
theorem fnPeerTextUpto_row_tie : Rows.fnPeerTextUptoRow.laidByTextAt .later Tryd.pinned [.sentinel, .sentinel, .sentinel, .sentinel, .sentinel, .sentinel] true :=
  OpenClaim.laidByTextAt_later rfl rfl tie noOwnUnsafe
theorem fnPeerShortUpto_row_tie : Rows.fnPeerShortUptoRow.laidByTextAt .later Tryd.pinned [.sentinel, .sentinel, .sentinel, .sentinel, .sentinel, .sentinel] true :=
  OpenClaim.laidByTextAt_later rfl rfl tie noOwnUnsafe
theorem fnPeerOtherCidUpto_row_tie : Rows.fnPeerOtherCidUptoRow.laidByTextAt .later Tryd.pinned [.sentinel, .sentinel, .sentinel, .sentinel, .sentinel, .sentinel] true :=
  OpenClaim.laidByTextAt_later rfl rfl tie noOwnUnsafe
theorem fnPeerOrdersUpto_row_tie : Rows.fnPeerOrdersUptoRow.laidByTextAt .later Tryd.pinned [.sentinel, .sentinel, .sentinel, .sentinel, .sentinel, .sentinel] true :=
  OpenClaim.laidByTextAt_later rfl rfl tie noOwnUnsafe
theorem fnPeerEdgeUpto_row_tie : Rows.fnPeerEdgeUptoRow.laidByTextAt .later Tryd.pinned [.sentinel, .sentinel, .sentinel, .sentinel, .sentinel, .sentinel, .sentinel, .sentinel, .sentinel, .sentinel] true :=
  OpenClaim.laidByTextAt_later rfl rfl tie2 noOwnUnsafe
theorem fnPeerSortedUpto_row_tie : Rows.fnPeerSortedUptoRow.laidByTextAt .later Tryd.pinned [.sentinel, .sentinel, .sentinel, .sentinel, .sentinel, .sentinel] true :=
  OpenClaim.laidByTextAt_later rfl rfl tie noOwnUnsafe
end Go.Proofs.YtnbpliccenanpaaDoor
