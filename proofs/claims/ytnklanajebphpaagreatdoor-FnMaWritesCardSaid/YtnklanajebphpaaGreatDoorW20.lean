/- Joined texts: Ta. -/
import Derived.Test.YtnklanajebphpaaGreatDoorRows
import Derived.LaidByTextLater
import Derived.SevenTiedAt
set_option maxRecDepth 100000
set_option maxHeartbeats 4000000
set_option linter.unusedVariables false
set_option linter.unusedSimpArgs false
namespace Go.Proofs.YtnklanajebphpaaGreatDoor
open IntKind
open Go
def ml:List (String×DataW Unit):=[("internal/strconv.uint64pow10",Rows.laid_internal_strconv_uint64pow10),("math/bits.deBruijn32tab",Rows.laid_math_bits_deBruijn32tab),("math/bits.deBruijn64tab",Rows.laid_math_bits_deBruijn64tab),("strconv.ErrSyntax",Rows.laid_strconv_ErrSyntax),("strconv.ErrRange",Rows.laid_strconv_ErrRange),("pub-brocade/pub/gomultibase.ErrUnsupportedEncoding",Rows.laid_pub_brocade_pub_gomultibase_ErrUnsupportedEncoding),("unicode/utf8.acceptRanges",Rows.laid_unicode_utf8_acceptRanges),("encoding/hex.ErrLength",Rows.laid_encoding_hex_ErrLength),("pub-brocade/pub/gomultibase.base256emojiTable",Rows.laid_pub_brocade_pub_gomultibase_base256emojiTable),("pub-brocade/pub/gomultihash.ErrTooShort",Rows.laid_pub_brocade_pub_gomultihash_ErrTooShort),("pub-brocade/pub/gomultihash.ErrVarintBufferShort",Rows.laid_pub_brocade_pub_gomultihash_ErrVarintBufferShort),("pub-brocade/pub/gomultihash.ErrVarintTooLong",Rows.laid_pub_brocade_pub_gomultihash_ErrVarintTooLong),("pub-brocade/pub/govarint.ErrOverflow",Rows.laid_pub_brocade_pub_govarint_ErrOverflow),("pub-brocade/pub/govarint.ErrNotMinimal",Rows.laid_pub_brocade_pub_govarint_ErrNotMinimal),("pub-brocade/pub/govarint.ErrUnderflow",Rows.laid_pub_brocade_pub_govarint_ErrUnderflow),("pub-brocade/pub/gomultibase.hexTableUppers",Rows.laid_pub_brocade_pub_gomultibase_hexTableUppers),("net/url.table",Rows.laid_net_url_table),("pub-brocade/pub/gomultihash.ErrInvalidMultihash",Rows.laid_pub_brocade_pub_gomultihash_ErrInvalidMultihash),("pub-brocade/pub/gocid.errCidTooShort",Rows.laid_pub_brocade_pub_gocid_errCidTooShort),("bytes.ErrTooLarge",Rows.laid_bytes_ErrTooLarge),("pub-brocade/pub/multiaddr.errNilPtr",Rows.laid_pub_brocade_pub_multiaddr_errNilPtr)]
def L0:List LaidKind:=[.data,.data,.data,.sentinel,.sentinel,.sentinel,.data,.sentinel,.data,.sentinel,.sentinel,.sentinel,.sentinel,.sentinel,.sentinel,.data,.data,.sentinel,.sentinel,.sentinel,.sentinel]
theorem k1:Tryz.prog.worded (varsWordLater true)=true:=by kernel_rfl
theorem k2:Tryz.prog.worded (varsWordLater !true)=false:=by kernel_rfl
theorem k3:Tryz.prog.worded rootWordLater=true:=by kernel_rfl
theorem k4:ml.map (fun x=>Tryz.prog.kindOfLater x.1)=L0.map some:=by kernel_rfl
theorem k5:(Tryz.prog.funcNamed "gosem.cut.vars").isSome=true:=by kernel_rfl
theorem k6:varsNamedLaterB Tryz.prog (varsId Tryz.prog) ml=true:=by kernel_rfl
theorem Pp:(ml.all fun x=>x.2.handleName?.isNone)=true:=by kernel_rfl
theorem BL:Tryz.pinned.checked.prog.pinnedFits "unicode/utf8.first" = true:=by kernel_rfl
theorem KJ:Tryz.pinned.checked.prog.headLifts.contains "ownunsafe" = false:=by kernel_rfl
theorem JS:Tryz.pinned.checked.prog.listedFits [("internal/strconv.uint64pow10",Rows.laid_internal_strconv_uint64pow10),("math/bits.deBruijn32tab",Rows.laid_math_bits_deBruijn32tab),("math/bits.deBruijn64tab",Rows.laid_math_bits_deBruijn64tab),("strconv.ErrSyntax",Rows.laid_strconv_ErrSyntax),("strconv.ErrRange",Rows.laid_strconv_ErrRange),("pub-brocade/pub/gomultibase.ErrUnsupportedEncoding",Rows.laid_pub_brocade_pub_gomultibase_ErrUnsupportedEncoding),("unicode/utf8.first",Rows.laid_unicode_utf8_first),("unicode/utf8.acceptRanges",Rows.laid_unicode_utf8_acceptRanges),("encoding/hex.ErrLength",Rows.laid_encoding_hex_ErrLength),("pub-brocade/pub/gomultibase.base256emojiTable",Rows.laid_pub_brocade_pub_gomultibase_base256emojiTable),("pub-brocade/pub/gomultihash.ErrTooShort",Rows.laid_pub_brocade_pub_gomultihash_ErrTooShort),("pub-brocade/pub/gomultihash.ErrVarintBufferShort",Rows.laid_pub_brocade_pub_gomultihash_ErrVarintBufferShort),("pub-brocade/pub/gomultihash.ErrVarintTooLong",Rows.laid_pub_brocade_pub_gomultihash_ErrVarintTooLong),("pub-brocade/pub/govarint.ErrOverflow",Rows.laid_pub_brocade_pub_govarint_ErrOverflow),("pub-brocade/pub/govarint.ErrNotMinimal",Rows.laid_pub_brocade_pub_govarint_ErrNotMinimal),("pub-brocade/pub/govarint.ErrUnderflow",Rows.laid_pub_brocade_pub_govarint_ErrUnderflow),("pub-brocade/pub/gomultibase.hexTableUppers",Rows.laid_pub_brocade_pub_gomultibase_hexTableUppers),("net/url.table",Rows.laid_net_url_table),("pub-brocade/pub/gomultihash.ErrInvalidMultihash",Rows.laid_pub_brocade_pub_gomultihash_ErrInvalidMultihash),("pub-brocade/pub/gocid.errCidTooShort",Rows.laid_pub_brocade_pub_gocid_errCidTooShort),("bytes.ErrTooLarge",Rows.laid_bytes_ErrTooLarge),("pub-brocade/pub/multiaddr.errNilPtr",Rows.laid_pub_brocade_pub_multiaddr_errNilPtr)]=true:=by
 unfold Program.listedFits
 rw[KJ]
 kernel_rfl
end Go.Proofs.YtnklanajebphpaaGreatDoor
