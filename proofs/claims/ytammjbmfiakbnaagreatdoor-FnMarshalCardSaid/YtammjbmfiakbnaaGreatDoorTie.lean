/-
  DERIVED. GIVEN WITH THE SEED: THE PROGRAM's TIES (one call each: nine closed facts by the kernel) AND EACH ROW's TIE, after the 31st guide's Derived/Test/Toyas{Tie, Card}.lean. No idea stands in it: it is a product of the set-up. Laid BY PROGRAM, IN A SANDBOX (cutbox-door.mjs). By AI agents, Wed Nov 11 2026. No macro, syntax, notation, axiom, sorry.
-/
import Derived.Test.YtammjbmfiakbnaaGreatDoorRows
import Derived.LaidByTextLater
import Derived.SevenTiedAt
import Derived.LaidSub
import Derived.LaidOnce
namespace Go.Proofs.YtammjbmfiakbnaaGreatDoor
open Go
set_option maxRecDepth 100000
theorem seatTie1 : Tryz.prog.laidByTextLater [("math/bits.deBruijn32tab", Rows.laid_math_bits_deBruijn32tab), ("math/bits.deBruijn64tab", Rows.laid_math_bits_deBruijn64tab), ("internal/strconv.uint64pow10", Rows.laid_internal_strconv_uint64pow10), ("gocqlframes/pub/gotime.std0x", Rows.laid_gocqlframes_pub_gotime_std0x), ("gocqlframes/pub/gotime.errAtoi", Rows.laid_gocqlframes_pub_gotime_errAtoi), ("gocqlframes/pub/gotime.errBad", Rows.laid_gocqlframes_pub_gotime_errBad), ("gocqlframes/pub/gotime.errLeadingInt", Rows.laid_gocqlframes_pub_gotime_errLeadingInt), ("gocqlframes/pub/gotime.unitMap", Rows.laid_gocqlframes_pub_gotime_unitMap), ("strconv.ErrRange", Rows.laid_strconv_ErrRange), ("strconv.ErrSyntax", Rows.laid_strconv_ErrSyntax), ("io.EOF", Rows.laid_io_EOF), ("gocqlframes/pub/bigall.errNoDigits", Rows.laid_gocqlframes_pub_bigall_errNoDigits), ("gocqlframes/pub/bigall.errInvalSep", Rows.laid_gocqlframes_pub_bigall_errInvalSep)] [.data, .data, .data, .data, .sentinel, .sentinel, .sentinel, .mapped, .sentinel, .sentinel, .sentinel, .sentinel, .sentinel] true :=
  Program.laidByTextLater_by_one 226 8 65 (by kernel_rfl) (by kernel_rfl) (by kernel_rfl) (by kernel_rfl) (by kernel_rfl) (by kernel_rfl) (fun _ _ => by kernel_rfl)
theorem noOwnUnsafe : Tryz.pinned.checked.prog.headLifts.contains "ownunsafe" = false := by kernel_rfl
theorem tie : Tryz.prog.laidByTextLater [("math/bits.deBruijn32tab", Rows.laid_math_bits_deBruijn32tab), ("math/bits.deBruijn64tab", Rows.laid_math_bits_deBruijn64tab), ("internal/strconv.uint64pow10", Rows.laid_internal_strconv_uint64pow10), ("gocqlframes/pub/gotime.std0x", Rows.laid_gocqlframes_pub_gotime_std0x), ("gocqlframes/pub/gotime.errAtoi", Rows.laid_gocqlframes_pub_gotime_errAtoi), ("gocqlframes/pub/gotime.errBad", Rows.laid_gocqlframes_pub_gotime_errBad), ("gocqlframes/pub/gotime.errLeadingInt", Rows.laid_gocqlframes_pub_gotime_errLeadingInt), ("gocqlframes/pub/gotime.unitMap", Rows.laid_gocqlframes_pub_gotime_unitMap), ("strconv.ErrRange", Rows.laid_strconv_ErrRange), ("strconv.ErrSyntax", Rows.laid_strconv_ErrSyntax), ("io.EOF", Rows.laid_io_EOF), ("gocqlframes/pub/bigall.errNoDigits", Rows.laid_gocqlframes_pub_bigall_errNoDigits), ("gocqlframes/pub/bigall.errInvalSep", Rows.laid_gocqlframes_pub_bigall_errInvalSep)] [.data, .data, .data, .data, .sentinel, .sentinel, .sentinel, .mapped, .sentinel, .sentinel, .sentinel, .sentinel, .sentinel] true :=
  Program.laidByTextLater.sub seatTie1 ["math/bits.deBruijn32tab", "math/bits.deBruijn64tab", "internal/strconv.uint64pow10", "gocqlframes/pub/gotime.std0x", "gocqlframes/pub/gotime.errAtoi", "gocqlframes/pub/gotime.errBad", "gocqlframes/pub/gotime.errLeadingInt", "gocqlframes/pub/gotime.unitMap", "strconv.ErrRange", "strconv.ErrSyntax", "io.EOF", "gocqlframes/pub/bigall.errNoDigits", "gocqlframes/pub/bigall.errInvalSep"] (by kernel_rfl) (by kernel_rfl)
theorem fnMarshal_row_tie : Rows.fnMarshalRow.laidByTextAt .later Tryz.pinned [.data, .data, .data, .data, .sentinel, .sentinel, .sentinel, .mapped, .sentinel, .sentinel, .sentinel, .sentinel, .sentinel] true :=
  OpenClaim.laidByTextAt_later rfl rfl tie noOwnUnsafe
theorem fnNull_row_tie : Rows.fnNullRow.laidByTextAt .later Tryz.pinned [.data, .data, .data, .data, .sentinel, .sentinel, .sentinel, .mapped, .sentinel, .sentinel, .sentinel, .sentinel, .sentinel] true :=
  OpenClaim.laidByTextAt_later rfl rfl tie noOwnUnsafe
theorem fnHeader_row_tie : Rows.fnHeaderRow.laidByTextAt .later Tryz.pinned [.data, .data, .data, .data, .sentinel, .sentinel, .sentinel, .mapped, .sentinel, .sentinel, .sentinel, .sentinel, .sentinel] true :=
  OpenClaim.laidByTextAt_later rfl rfl tie noOwnUnsafe
theorem fnMarshalUpto_row_tie : Rows.fnMarshalUptoRow.laidByTextAt .later Tryz.pinned [.data, .data, .data, .data, .sentinel, .sentinel, .sentinel, .mapped, .sentinel, .sentinel, .sentinel, .sentinel, .sentinel] true :=
  OpenClaim.laidByTextAt_later rfl rfl tie noOwnUnsafe
theorem fnNullUpto_row_tie : Rows.fnNullUptoRow.laidByTextAt .later Tryz.pinned [.data, .data, .data, .data, .sentinel, .sentinel, .sentinel, .mapped, .sentinel, .sentinel, .sentinel, .sentinel, .sentinel] true :=
  OpenClaim.laidByTextAt_later rfl rfl tie noOwnUnsafe
theorem fnHeaderUpto_row_tie : Rows.fnHeaderUptoRow.laidByTextAt .later Tryz.pinned [.data, .data, .data, .data, .sentinel, .sentinel, .sentinel, .mapped, .sentinel, .sentinel, .sentinel, .sentinel, .sentinel] true :=
  OpenClaim.laidByTextAt_later rfl rfl tie noOwnUnsafe
end Go.Proofs.YtammjbmfiakbnaaGreatDoor
