/-
  DERIVED. GIVEN WITH THE SEED: THE PROGRAM's TIES (one call each: nine closed facts by the kernel) AND EACH ROW's TIE, after the 31st guide's Derived/Test/Toyas{Tie, Card}.lean. No idea stands in it: it is a product of the set-up. Laid BY PROGRAM, IN A SANDBOX (cutbox-door.mjs). By AI agents, Wed Nov 11 2026. No macro, syntax, notation, axiom, sorry.
-/
import Derived.Test.YtgbliniamkpocaaDoorRows
import Derived.LaidByTextLater
import Derived.SevenTiedAt
import Derived.LaidSub
import Derived.LaidOnce
namespace Go.Proofs.YtgbliniamkpocaaDoor
open Go
set_option maxRecDepth 100000
theorem seatTie1 : Tryd.prog.laidByTextLater [("math/bits.deBruijn32tab", Rows.laid_math_bits_deBruijn32tab), ("math/bits.deBruijn64tab", Rows.laid_math_bits_deBruijn64tab), ("internal/strconv.uint64pow10", Rows.laid_internal_strconv_uint64pow10), ("strconv.ErrRange", Rows.laid_strconv_ErrRange), ("strconv.ErrSyntax", Rows.laid_strconv_ErrSyntax), ("pub-tetrapla/pub/jsonparser.DefaultConfig", Rows.laid_pub_tetrapla_pub_jsonparser_DefaultConfig), ("pub-tetrapla/pub/jsonparser.backslashCharEscapeTable", Rows.laid_pub_tetrapla_pub_jsonparser_backslashCharEscapeTable), ("pub-tetrapla/pub/jsonparser.KeyPathNotFoundError", Rows.laid_pub_tetrapla_pub_jsonparser_KeyPathNotFoundError), ("pub-tetrapla/pub/jsonparser.UnknownValueTypeError", Rows.laid_pub_tetrapla_pub_jsonparser_UnknownValueTypeError), ("pub-tetrapla/pub/jsonparser.MalformedJsonError", Rows.laid_pub_tetrapla_pub_jsonparser_MalformedJsonError), ("pub-tetrapla/pub/jsonparser.MalformedStringError", Rows.laid_pub_tetrapla_pub_jsonparser_MalformedStringError), ("pub-tetrapla/pub/jsonparser.MalformedArrayError", Rows.laid_pub_tetrapla_pub_jsonparser_MalformedArrayError), ("pub-tetrapla/pub/jsonparser.MalformedObjectError", Rows.laid_pub_tetrapla_pub_jsonparser_MalformedObjectError), ("pub-tetrapla/pub/jsonparser.MalformedStringEscapeError", Rows.laid_pub_tetrapla_pub_jsonparser_MalformedStringEscapeError)] [.data, .data, .data, .sentinel, .sentinel, .data, .data, .sentinel, .sentinel, .sentinel, .sentinel, .sentinel, .sentinel, .sentinel] true :=
  Program.laidByTextLater_by_one 205 8 118 (by kernel_rfl) (by kernel_rfl) (by kernel_rfl) (by kernel_rfl) (by kernel_rfl) (by kernel_rfl) (fun _ _ => by kernel_rfl)
theorem noOwnUnsafe : Tryd.pinned.checked.prog.headLifts.contains "ownunsafe" = false := by kernel_rfl
theorem tie : Tryd.prog.laidByTextLater [("pub-tetrapla/pub/jsonparser.DefaultConfig", Rows.laid_pub_tetrapla_pub_jsonparser_DefaultConfig), ("pub-tetrapla/pub/jsonparser.backslashCharEscapeTable", Rows.laid_pub_tetrapla_pub_jsonparser_backslashCharEscapeTable), ("pub-tetrapla/pub/jsonparser.MalformedStringEscapeError", Rows.laid_pub_tetrapla_pub_jsonparser_MalformedStringEscapeError)] [.data, .data, .sentinel] true :=
  Program.laidByTextLater.sub seatTie1 ["pub-tetrapla/pub/jsonparser.DefaultConfig", "pub-tetrapla/pub/jsonparser.backslashCharEscapeTable", "pub-tetrapla/pub/jsonparser.MalformedStringEscapeError"] (by kernel_rfl) (by kernel_rfl)
theorem fnJpUnescapeRoom_row_tie : Rows.fnJpUnescapeRoomRow.laidByTextAt .later Tryd.pinned [.data, .data, .sentinel] true :=
  OpenClaim.laidByTextAt_later rfl rfl tie noOwnUnsafe
theorem tie2 : Tryd.prog.laidByTextLater [("math/bits.deBruijn32tab", Rows.laid_math_bits_deBruijn32tab), ("math/bits.deBruijn64tab", Rows.laid_math_bits_deBruijn64tab), ("internal/strconv.uint64pow10", Rows.laid_internal_strconv_uint64pow10), ("strconv.ErrRange", Rows.laid_strconv_ErrRange), ("strconv.ErrSyntax", Rows.laid_strconv_ErrSyntax), ("pub-tetrapla/pub/jsonparser.DefaultConfig", Rows.laid_pub_tetrapla_pub_jsonparser_DefaultConfig), ("pub-tetrapla/pub/jsonparser.backslashCharEscapeTable", Rows.laid_pub_tetrapla_pub_jsonparser_backslashCharEscapeTable), ("pub-tetrapla/pub/jsonparser.KeyPathNotFoundError", Rows.laid_pub_tetrapla_pub_jsonparser_KeyPathNotFoundError), ("pub-tetrapla/pub/jsonparser.UnknownValueTypeError", Rows.laid_pub_tetrapla_pub_jsonparser_UnknownValueTypeError), ("pub-tetrapla/pub/jsonparser.MalformedJsonError", Rows.laid_pub_tetrapla_pub_jsonparser_MalformedJsonError), ("pub-tetrapla/pub/jsonparser.MalformedStringError", Rows.laid_pub_tetrapla_pub_jsonparser_MalformedStringError), ("pub-tetrapla/pub/jsonparser.MalformedArrayError", Rows.laid_pub_tetrapla_pub_jsonparser_MalformedArrayError), ("pub-tetrapla/pub/jsonparser.MalformedObjectError", Rows.laid_pub_tetrapla_pub_jsonparser_MalformedObjectError), ("pub-tetrapla/pub/jsonparser.MalformedStringEscapeError", Rows.laid_pub_tetrapla_pub_jsonparser_MalformedStringEscapeError)] [.data, .data, .data, .sentinel, .sentinel, .data, .data, .sentinel, .sentinel, .sentinel, .sentinel, .sentinel, .sentinel, .sentinel] true :=
  Program.laidByTextLater.sub seatTie1 ["math/bits.deBruijn32tab", "math/bits.deBruijn64tab", "internal/strconv.uint64pow10", "strconv.ErrRange", "strconv.ErrSyntax", "pub-tetrapla/pub/jsonparser.DefaultConfig", "pub-tetrapla/pub/jsonparser.backslashCharEscapeTable", "pub-tetrapla/pub/jsonparser.KeyPathNotFoundError", "pub-tetrapla/pub/jsonparser.UnknownValueTypeError", "pub-tetrapla/pub/jsonparser.MalformedJsonError", "pub-tetrapla/pub/jsonparser.MalformedStringError", "pub-tetrapla/pub/jsonparser.MalformedArrayError", "pub-tetrapla/pub/jsonparser.MalformedObjectError", "pub-tetrapla/pub/jsonparser.MalformedStringEscapeError"] (by kernel_rfl) (by kernel_rfl)
theorem fnJpSearchMisses_row_tie : Rows.fnJpSearchMissesRow.laidByTextAt .later Tryd.pinned [.data, .data, .data, .sentinel, .sentinel, .data, .data, .sentinel, .sentinel, .sentinel, .sentinel, .sentinel, .sentinel, .sentinel] true :=
  OpenClaim.laidByTextAt_later rfl rfl tie2 noOwnUnsafe
theorem fnJpCutWhole_row_tie : Rows.fnJpCutWholeRow.laidByTextAt .later Tryd.pinned [.data, .data, .data, .sentinel, .sentinel, .data, .data, .sentinel, .sentinel, .sentinel, .sentinel, .sentinel, .sentinel, .sentinel] true :=
  OpenClaim.laidByTextAt_later rfl rfl tie2 noOwnUnsafe
theorem fnJpGetFirst_row_tie : Rows.fnJpGetFirstRow.laidByTextAt .later Tryd.pinned [.data, .data, .data, .sentinel, .sentinel, .data, .data, .sentinel, .sentinel, .sentinel, .sentinel, .sentinel, .sentinel, .sentinel] true :=
  OpenClaim.laidByTextAt_later rfl rfl tie2 noOwnUnsafe
theorem fnJpGetNested_row_tie : Rows.fnJpGetNestedRow.laidByTextAt .later Tryd.pinned [.data, .data, .data, .sentinel, .sentinel, .data, .data, .sentinel, .sentinel, .sentinel, .sentinel, .sentinel, .sentinel, .sentinel] true :=
  OpenClaim.laidByTextAt_later rfl rfl tie2 noOwnUnsafe
theorem fnJpSetCommute_row_tie : Rows.fnJpSetCommuteRow.laidByTextAt .later Tryd.pinned [.data, .data, .data, .sentinel, .sentinel, .data, .data, .sentinel, .sentinel, .sentinel, .sentinel, .sentinel, .sentinel, .sentinel] true :=
  OpenClaim.laidByTextAt_later rfl rfl tie2 noOwnUnsafe
theorem fnJqAppendBytes_row_tie : Rows.fnJqAppendBytesRow.laidByTextAt .later Tryd.pinned [.data, .data, .data, .sentinel, .sentinel, .data, .data, .sentinel, .sentinel, .sentinel, .sentinel, .sentinel, .sentinel, .sentinel] true :=
  OpenClaim.laidByTextAt_later rfl rfl tie2 noOwnUnsafe
theorem fnJpUnescapeRoomUpto_row_tie : Rows.fnJpUnescapeRoomUptoRow.laidByTextAt .later Tryd.pinned [.data, .data, .sentinel] true :=
  OpenClaim.laidByTextAt_later rfl rfl tie noOwnUnsafe
theorem fnJpSearchMissesUpto_row_tie : Rows.fnJpSearchMissesUptoRow.laidByTextAt .later Tryd.pinned [.data, .data, .data, .sentinel, .sentinel, .data, .data, .sentinel, .sentinel, .sentinel, .sentinel, .sentinel, .sentinel, .sentinel] true :=
  OpenClaim.laidByTextAt_later rfl rfl tie2 noOwnUnsafe
theorem fnJpCutWholeUpto_row_tie : Rows.fnJpCutWholeUptoRow.laidByTextAt .later Tryd.pinned [.data, .data, .data, .sentinel, .sentinel, .data, .data, .sentinel, .sentinel, .sentinel, .sentinel, .sentinel, .sentinel, .sentinel] true :=
  OpenClaim.laidByTextAt_later rfl rfl tie2 noOwnUnsafe
theorem fnJpGetFirstUpto_row_tie : Rows.fnJpGetFirstUptoRow.laidByTextAt .later Tryd.pinned [.data, .data, .data, .sentinel, .sentinel, .data, .data, .sentinel, .sentinel, .sentinel, .sentinel, .sentinel, .sentinel, .sentinel] true :=
  OpenClaim.laidByTextAt_later rfl rfl tie2 noOwnUnsafe
theorem fnJpGetNestedUpto_row_tie : Rows.fnJpGetNestedUptoRow.laidByTextAt .later Tryd.pinned [.data, .data, .data, .sentinel, .sentinel, .data, .data, .sentinel, .sentinel, .sentinel, .sentinel, .sentinel, .sentinel, .sentinel] true :=
  OpenClaim.laidByTextAt_later rfl rfl tie2 noOwnUnsafe
theorem fnJpSetCommuteUpto_row_tie : Rows.fnJpSetCommuteUptoRow.laidByTextAt .later Tryd.pinned [.data, .data, .data, .sentinel, .sentinel, .data, .data, .sentinel, .sentinel, .sentinel, .sentinel, .sentinel, .sentinel, .sentinel] true :=
  OpenClaim.laidByTextAt_later rfl rfl tie2 noOwnUnsafe
theorem fnJqAppendBytesUpto_row_tie : Rows.fnJqAppendBytesUptoRow.laidByTextAt .later Tryd.pinned [.data, .data, .data, .sentinel, .sentinel, .data, .data, .sentinel, .sentinel, .sentinel, .sentinel, .sentinel, .sentinel, .sentinel] true :=
  OpenClaim.laidByTextAt_later rfl rfl tie2 noOwnUnsafe
end Go.Proofs.YtgbliniamkpocaaDoor
