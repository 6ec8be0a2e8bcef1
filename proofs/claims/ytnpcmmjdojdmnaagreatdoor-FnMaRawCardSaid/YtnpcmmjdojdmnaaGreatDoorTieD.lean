/- The tie of the two tables that FnMaComponents lists, one closed fact a theorem: first the words of the door. The tie of FnMaComponents' listed variables: the list, its kinds, its names. -/
import Derived.Test.YtnpcmmjdojdmnaaGreatDoorRows
import Derived.LaidByTextLater
import Derived.LaidOnce
namespace Go.Proofs.YtnpcmmjdojdmnaaGreatDoor
open Go
set_option maxRecDepth 100000
theorem tieW1 : Tryz.prog.worded (varsWordLater true) = true := by kernel_rfl
theorem tieW2 : Tryz.prog.worded (varsWordLater !true) = false := by kernel_rfl
theorem tieW3 : Tryz.prog.worded rootWordLater = true := by kernel_rfl
theorem tieK32 : Tryz.prog.kindOfLater "math/bits.deBruijn32tab" = some .data := by kernel_rfl
theorem tieK64 : Tryz.prog.kindOfLater "math/bits.deBruijn64tab" = some .data := by kernel_rfl
theorem tieG : (Tryz.prog.funcNamed "gosem.cut.vars").isSome = true := by kernel_rfl
theorem noOwnUnsafeA : Tryz.pinned.checked.prog.headLifts.contains "ownunsafe" = false := by kernel_rfl
end Go.Proofs.YtnpcmmjdojdmnaaGreatDoor
namespace Go.Proofs.YtnpcmmjdojdmnaaGreatDoor
open Go
set_option maxRecDepth 100000
def laidFull : List (String × DataW Unit) := [("internal/strconv.uint64pow10", Rows.laid_internal_strconv_uint64pow10), ("math/bits.deBruijn32tab", Rows.laid_math_bits_deBruijn32tab), ("math/bits.deBruijn64tab", Rows.laid_math_bits_deBruijn64tab), ("strconv.ErrSyntax", Rows.laid_strconv_ErrSyntax), ("strconv.ErrRange", Rows.laid_strconv_ErrRange), ("pub-brocade/pub/gomultibase.ErrUnsupportedEncoding", Rows.laid_pub_brocade_pub_gomultibase_ErrUnsupportedEncoding), ("unicode/utf8.acceptRanges", Rows.laid_unicode_utf8_acceptRanges), ("encoding/hex.ErrLength", Rows.laid_encoding_hex_ErrLength), ("pub-brocade/pub/gomultibase.base256emojiTable", Rows.laid_pub_brocade_pub_gomultibase_base256emojiTable), ("pub-brocade/pub/gomultihash.ErrTooShort", Rows.laid_pub_brocade_pub_gomultihash_ErrTooShort), ("pub-brocade/pub/gomultihash.ErrVarintBufferShort", Rows.laid_pub_brocade_pub_gomultihash_ErrVarintBufferShort), ("pub-brocade/pub/gomultihash.ErrVarintTooLong", Rows.laid_pub_brocade_pub_gomultihash_ErrVarintTooLong), ("pub-brocade/pub/govarint.ErrOverflow", Rows.laid_pub_brocade_pub_govarint_ErrOverflow), ("pub-brocade/pub/govarint.ErrNotMinimal", Rows.laid_pub_brocade_pub_govarint_ErrNotMinimal), ("pub-brocade/pub/govarint.ErrUnderflow", Rows.laid_pub_brocade_pub_govarint_ErrUnderflow), ("pub-brocade/pub/gomultibase.hexTableUppers", Rows.laid_pub_brocade_pub_gomultibase_hexTableUppers), ("net/url.table", Rows.laid_net_url_table), ("pub-brocade/pub/gomultihash.ErrInvalidMultihash", Rows.laid_pub_brocade_pub_gomultihash_ErrInvalidMultihash), ("pub-brocade/pub/gocid.errCidTooShort", Rows.laid_pub_brocade_pub_gocid_errCidTooShort), ("bytes.ErrTooLarge", Rows.laid_bytes_ErrTooLarge), ("pub-brocade/pub/multiaddr.errNilPtr", Rows.laid_pub_brocade_pub_multiaddr_errNilPtr)]
def kindsFull : List LaidKind := [.data, .data, .data, .sentinel, .sentinel, .sentinel, .data, .sentinel, .data, .sentinel, .sentinel, .sentinel, .sentinel, .sentinel, .sentinel, .data, .data, .sentinel, .sentinel, .sentinel, .sentinel]
theorem tieKF : laidFull.map (fun x => Tryz.prog.kindOfLater x.1) = kindsFull.map some := by kernel_rfl
end Go.Proofs.YtnpcmmjdojdmnaaGreatDoor
