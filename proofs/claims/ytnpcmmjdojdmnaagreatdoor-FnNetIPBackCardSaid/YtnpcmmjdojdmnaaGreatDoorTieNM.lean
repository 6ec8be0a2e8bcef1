/- The row's tie. -/
import Derived.Test.YtnpcmmjdojdmnaaGreatDoorTieNL
import Derived.SevenTiedAt
namespace Go.Proofs.YtnpcmmjdojdmnaaGreatDoor
open Go
theorem pin_laid_unicode_utf8_firstN : Tryz.pinned.checked.prog.pinnedFits "unicode/utf8.first" = true := by kernel_rfl
theorem fitsN : Tryz.pinned.checked.prog.listedFits [("internal/strconv.uint64pow10", Rows.laid_internal_strconv_uint64pow10), ("math/bits.deBruijn32tab", Rows.laid_math_bits_deBruijn32tab), ("math/bits.deBruijn64tab", Rows.laid_math_bits_deBruijn64tab), ("strconv.ErrSyntax", Rows.laid_strconv_ErrSyntax), ("strconv.ErrRange", Rows.laid_strconv_ErrRange), ("pub-brocade/pub/gomultibase.ErrUnsupportedEncoding", Rows.laid_pub_brocade_pub_gomultibase_ErrUnsupportedEncoding), ("unicode/utf8.first", Rows.laid_unicode_utf8_first), ("unicode/utf8.acceptRanges", Rows.laid_unicode_utf8_acceptRanges), ("encoding/hex.ErrLength", Rows.laid_encoding_hex_ErrLength), ("pub-brocade/pub/gomultibase.base256emojiTable", Rows.laid_pub_brocade_pub_gomultibase_base256emojiTable), ("pub-brocade/pub/gomultihash.ErrTooShort", Rows.laid_pub_brocade_pub_gomultihash_ErrTooShort), ("pub-brocade/pub/gomultihash.ErrVarintBufferShort", Rows.laid_pub_brocade_pub_gomultihash_ErrVarintBufferShort), ("pub-brocade/pub/gomultihash.ErrVarintTooLong", Rows.laid_pub_brocade_pub_gomultihash_ErrVarintTooLong), ("pub-brocade/pub/govarint.ErrOverflow", Rows.laid_pub_brocade_pub_govarint_ErrOverflow), ("pub-brocade/pub/govarint.ErrNotMinimal", Rows.laid_pub_brocade_pub_govarint_ErrNotMinimal), ("pub-brocade/pub/govarint.ErrUnderflow", Rows.laid_pub_brocade_pub_govarint_ErrUnderflow), ("pub-brocade/pub/gomultibase.hexTableUppers", Rows.laid_pub_brocade_pub_gomultibase_hexTableUppers), ("net/url.table", Rows.laid_net_url_table), ("pub-brocade/pub/gomultihash.ErrInvalidMultihash", Rows.laid_pub_brocade_pub_gomultihash_ErrInvalidMultihash), ("pub-brocade/pub/gocid.errCidTooShort", Rows.laid_pub_brocade_pub_gocid_errCidTooShort), ("pub-brocade/pub/multiaddr/net.errNotIP", Rows.laid_pub_brocade_pub_multiaddr_net_errNotIP), ("pub-brocade/pub/multiaddr.errNilPtr", Rows.laid_pub_brocade_pub_multiaddr_errNilPtr), ("pub-brocade/pub/multiaddr/net.errIncorrectNetAddr", Rows.laid_pub_brocade_pub_multiaddr_net_errIncorrectNetAddr)] = true := by
  unfold Program.listedFits
  rw [noOwnUnsafeA]
  kernel_rfl
theorem fnNetIPBack_row_tie : Rows.fnNetIPBackRow.laidByTextAt .later Tryz.pinned [.data, .data, .data, .sentinel, .sentinel, .sentinel, .pinned, .data, .sentinel, .data, .sentinel, .sentinel, .sentinel, .sentinel, .sentinel, .sentinel, .data, .data, .sentinel, .sentinel, .sentinel, .sentinel, .sentinel] true :=
  OpenClaim.laidByTextAt_pinned rfl rfl tieFullN rfl rfl rfl rfl (fun y hy _e => by
    simp only [Rows.fnNetIPBackRow, List.zip_cons_cons, List.zip_nil_right, List.mem_cons, List.mem_nil_iff, or_false] at hy
    rcases hy with rfl | rfl | rfl | rfl | rfl | rfl | rfl | rfl | rfl | rfl | rfl | rfl | rfl | rfl | rfl | rfl | rfl | rfl | rfl | rfl | rfl | rfl | rfl
    · cases _e
    · cases _e
    · cases _e
    · cases _e
    · cases _e
    · cases _e
    · exact ⟨pin_laid_unicode_utf8_firstN, by kernel_rfl⟩
    · cases _e
    · cases _e
    · cases _e
    · cases _e
    · cases _e
    · cases _e
    · cases _e
    · cases _e
    · cases _e
    · cases _e
    · cases _e
    · cases _e
    · cases _e
    · cases _e
    · cases _e
    · cases _e) fitsN
end Go.Proofs.YtnpcmmjdojdmnaaGreatDoor
