/-
  DERIVED. GIVEN WITH THE SEED: THE PROGRAM's TIES (one call each: nine closed facts by the kernel) AND EACH ROW's TIE, after the 31st guide's Derived/Test/Toyas{Tie, Card}.lean. No idea stands in it: it is a product of the set-up. Laid BY PROGRAM, IN A SANDBOX (cutbox-door.mjs). By AI agents, Wed Nov 11 2026. No macro, syntax, notation, axiom, sorry.
-/
import Derived.Test.YtflafpklphgbpaaGreatDoorRows
import Derived.LaidByTextLater
import Derived.SevenTiedAt
import Derived.LaidSub
import Derived.LaidOnce
namespace Go.Proofs.YtflafpklphgbpaaGreatDoor
open Go
set_option maxRecDepth 100000
theorem seatTie1 : Tryz.prog.laidByTextLater [("math/bits.deBruijn32tab", Rows.laid_math_bits_deBruijn32tab), ("math/bits.deBruijn64tab", Rows.laid_math_bits_deBruijn64tab), ("internal/strconv.uint64pow10", Rows.laid_internal_strconv_uint64pow10), ("unicode/utf8.acceptRanges", Rows.laid_unicode_utf8_acceptRanges), ("strconv.ErrRange", Rows.laid_strconv_ErrRange), ("strconv.ErrSyntax", Rows.laid_strconv_ErrSyntax), ("pub-symmory/pub/govarint.ErrOverflow", Rows.laid_pub_symmory_pub_govarint_ErrOverflow), ("pub-symmory/pub/govarint.ErrUnderflow", Rows.laid_pub_symmory_pub_govarint_ErrUnderflow), ("pub-symmory/pub/govarint.ErrNotMinimal", Rows.laid_pub_symmory_pub_govarint_ErrNotMinimal), ("encoding/hex.ErrLength", Rows.laid_encoding_hex_ErrLength), ("pub-symmory/pub/gomultibase.base256emojiTable", Rows.laid_pub_symmory_pub_gomultibase_base256emojiTable), ("pub-symmory/pub/gomultibase.ErrUnsupportedEncoding", Rows.laid_pub_symmory_pub_gomultibase_ErrUnsupportedEncoding), ("pub-symmory/pub/gomultihash.ErrTooShort", Rows.laid_pub_symmory_pub_gomultihash_ErrTooShort), ("pub-symmory/pub/gomultihash.ErrInvalidMultihash", Rows.laid_pub_symmory_pub_gomultihash_ErrInvalidMultihash), ("pub-symmory/pub/gomultihash.ErrVarintBufferShort", Rows.laid_pub_symmory_pub_gomultihash_ErrVarintBufferShort), ("pub-symmory/pub/gomultihash.ErrVarintTooLong", Rows.laid_pub_symmory_pub_gomultihash_ErrVarintTooLong), ("pub-symmory/pub/gocid.errCidTooShort", Rows.laid_pub_symmory_pub_gocid_errCidTooShort)] [.data, .data, .data, .data, .sentinel, .sentinel, .sentinel, .sentinel, .sentinel, .sentinel, .data, .sentinel, .sentinel, .sentinel, .sentinel, .sentinel, .sentinel] true :=
  Program.laidByTextLater_by_one 267 8 257 (by kernel_rfl) (by kernel_rfl) (by kernel_rfl) (by kernel_rfl) (by kernel_rfl) (by kernel_rfl) (fun _ _ => by kernel_rfl)
theorem pin_laid_unicode_utf8_first : Tryz.pinned.checked.prog.pinnedFits "unicode/utf8.first" = true := by kernel_rfl
theorem noOwnUnsafe : Tryz.pinned.checked.prog.headLifts.contains "ownunsafe" = false := by kernel_rfl
theorem fits1 : Tryz.pinned.checked.prog.listedFits [("math/bits.deBruijn32tab", Rows.laid_math_bits_deBruijn32tab), ("math/bits.deBruijn64tab", Rows.laid_math_bits_deBruijn64tab), ("internal/strconv.uint64pow10", Rows.laid_internal_strconv_uint64pow10), ("unicode/utf8.acceptRanges", Rows.laid_unicode_utf8_acceptRanges), ("strconv.ErrRange", Rows.laid_strconv_ErrRange), ("strconv.ErrSyntax", Rows.laid_strconv_ErrSyntax), ("pub-symmory/pub/govarint.ErrOverflow", Rows.laid_pub_symmory_pub_govarint_ErrOverflow), ("pub-symmory/pub/govarint.ErrUnderflow", Rows.laid_pub_symmory_pub_govarint_ErrUnderflow), ("pub-symmory/pub/govarint.ErrNotMinimal", Rows.laid_pub_symmory_pub_govarint_ErrNotMinimal), ("encoding/hex.ErrLength", Rows.laid_encoding_hex_ErrLength), ("pub-symmory/pub/gomultibase.base256emojiTable", Rows.laid_pub_symmory_pub_gomultibase_base256emojiTable), ("pub-symmory/pub/gomultibase.ErrUnsupportedEncoding", Rows.laid_pub_symmory_pub_gomultibase_ErrUnsupportedEncoding), ("pub-symmory/pub/gomultihash.ErrTooShort", Rows.laid_pub_symmory_pub_gomultihash_ErrTooShort), ("pub-symmory/pub/gomultihash.ErrInvalidMultihash", Rows.laid_pub_symmory_pub_gomultihash_ErrInvalidMultihash), ("pub-symmory/pub/gomultihash.ErrVarintBufferShort", Rows.laid_pub_symmory_pub_gomultihash_ErrVarintBufferShort), ("pub-symmory/pub/gomultihash.ErrVarintTooLong", Rows.laid_pub_symmory_pub_gomultihash_ErrVarintTooLong), ("pub-symmory/pub/gocid.errCidTooShort", Rows.laid_pub_symmory_pub_gocid_errCidTooShort), ("unicode/utf8.first", Rows.laid_unicode_utf8_first)] = true := by
  unfold Program.listedFits
  rw [noOwnUnsafe]
  kernel_rfl
theorem tie : Tryz.prog.laidByTextLater [("math/bits.deBruijn32tab", Rows.laid_math_bits_deBruijn32tab), ("math/bits.deBruijn64tab", Rows.laid_math_bits_deBruijn64tab), ("internal/strconv.uint64pow10", Rows.laid_internal_strconv_uint64pow10), ("unicode/utf8.acceptRanges", Rows.laid_unicode_utf8_acceptRanges), ("strconv.ErrRange", Rows.laid_strconv_ErrRange), ("strconv.ErrSyntax", Rows.laid_strconv_ErrSyntax), ("pub-symmory/pub/govarint.ErrOverflow", Rows.laid_pub_symmory_pub_govarint_ErrOverflow), ("pub-symmory/pub/govarint.ErrUnderflow", Rows.laid_pub_symmory_pub_govarint_ErrUnderflow), ("pub-symmory/pub/govarint.ErrNotMinimal", Rows.laid_pub_symmory_pub_govarint_ErrNotMinimal), ("encoding/hex.ErrLength", Rows.laid_encoding_hex_ErrLength), ("pub-symmory/pub/gomultibase.base256emojiTable", Rows.laid_pub_symmory_pub_gomultibase_base256emojiTable), ("pub-symmory/pub/gomultibase.ErrUnsupportedEncoding", Rows.laid_pub_symmory_pub_gomultibase_ErrUnsupportedEncoding), ("pub-symmory/pub/gomultihash.ErrTooShort", Rows.laid_pub_symmory_pub_gomultihash_ErrTooShort), ("pub-symmory/pub/gomultihash.ErrInvalidMultihash", Rows.laid_pub_symmory_pub_gomultihash_ErrInvalidMultihash), ("pub-symmory/pub/gomultihash.ErrVarintBufferShort", Rows.laid_pub_symmory_pub_gomultihash_ErrVarintBufferShort), ("pub-symmory/pub/gomultihash.ErrVarintTooLong", Rows.laid_pub_symmory_pub_gomultihash_ErrVarintTooLong), ("pub-symmory/pub/gocid.errCidTooShort", Rows.laid_pub_symmory_pub_gocid_errCidTooShort)] [.data, .data, .data, .data, .sentinel, .sentinel, .sentinel, .sentinel, .sentinel, .sentinel, .data, .sentinel, .sentinel, .sentinel, .sentinel, .sentinel, .sentinel] true :=
  Program.laidByTextLater.sub seatTie1 ["math/bits.deBruijn32tab", "math/bits.deBruijn64tab", "internal/strconv.uint64pow10", "unicode/utf8.acceptRanges", "strconv.ErrRange", "strconv.ErrSyntax", "pub-symmory/pub/govarint.ErrOverflow", "pub-symmory/pub/govarint.ErrUnderflow", "pub-symmory/pub/govarint.ErrNotMinimal", "encoding/hex.ErrLength", "pub-symmory/pub/gomultibase.base256emojiTable", "pub-symmory/pub/gomultibase.ErrUnsupportedEncoding", "pub-symmory/pub/gomultihash.ErrTooShort", "pub-symmory/pub/gomultihash.ErrInvalidMultihash", "pub-symmory/pub/gomultihash.ErrVarintBufferShort", "pub-symmory/pub/gomultihash.ErrVarintTooLong", "pub-symmory/pub/gocid.errCidTooShort"] (by kernel_rfl) (by kernel_rfl)
theorem fnPeerBasesWrong_row_tie : Rows.fnPeerBasesWrongRow.laidByTextAt .later Tryz.pinned [.data, .data, .data, .data, .sentinel, .sentinel, .sentinel, .sentinel, .sentinel, .sentinel, .data, .sentinel, .sentinel, .sentinel, .sentinel, .sentinel, .sentinel, .pinned] true :=
  OpenClaim.laidByTextAt_pinned rfl rfl tie rfl rfl rfl rfl (fun y hy _e => by
    simp only [Rows.fnPeerBasesWrongRow, List.zip_cons_cons, List.zip_nil_right, List.mem_cons, List.mem_nil_iff, or_false] at hy
    rcases hy with rfl | rfl | rfl | rfl | rfl | rfl | rfl | rfl | rfl | rfl | rfl | rfl | rfl | rfl | rfl | rfl | rfl | rfl
    · cases _e
    · cases _e
    · cases _e
    · cases _e
    · cases _e
    · cases _e
    · cases _e
    · cases _e
    · cases _e
    · cases _e
    · cases _e
    · cases _e
    · cases _e
    · cases _e
    · cases _e
    · cases _e
    · cases _e
    · exact ⟨pin_laid_unicode_utf8_first, by kernel_rfl⟩) fits1
theorem fnPeerBasesWrongUpto_row_tie : Rows.fnPeerBasesWrongUptoRow.laidByTextAt .later Tryz.pinned [.data, .data, .data, .data, .sentinel, .sentinel, .sentinel, .sentinel, .sentinel, .sentinel, .data, .sentinel, .sentinel, .sentinel, .sentinel, .sentinel, .sentinel, .pinned] true :=
  OpenClaim.laidByTextAt_pinned rfl rfl tie rfl rfl rfl rfl (fun y hy _e => by
    simp only [Rows.fnPeerBasesWrongUptoRow, List.zip_cons_cons, List.zip_nil_right, List.mem_cons, List.mem_nil_iff, or_false] at hy
    rcases hy with rfl | rfl | rfl | rfl | rfl | rfl | rfl | rfl | rfl | rfl | rfl | rfl | rfl | rfl | rfl | rfl | rfl | rfl
    · cases _e
    · cases _e
    · cases _e
    · cases _e
    · cases _e
    · cases _e
    · cases _e
    · cases _e
    · cases _e
    · cases _e
    · cases _e
    · cases _e
    · cases _e
    · cases _e
    · cases _e
    · cases _e
    · cases _e
    · exact ⟨pin_laid_unicode_utf8_first, by kernel_rfl⟩) fits1
end Go.Proofs.YtflafpklphgbpaaGreatDoor
