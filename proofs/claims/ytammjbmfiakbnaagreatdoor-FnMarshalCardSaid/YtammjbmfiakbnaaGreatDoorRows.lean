/-
  NARROWER THAN 'FOR EVERY INPUT', by the rows' own cells (each row's printed sentence says how): FnMarshal: loops, laid · FnNull: loops, laid · FnHeader: laid.
  DERIVED. THE GIVEN ROWS OF THIS SEAT. 3 by the template 'for every input the law returns true; each argument reads behind the call as it read before'; 0 by the template 'total and deterministic' (their statements: YtammjbmfiakbnaaGreatDoorTotals.lean).
  GIVEN WITH THE SEED: the statements are not yours to turn. If you find one false, say at which input.
  Laid BY PROGRAM, IN A SANDBOX (cutbox-rows.mjs): the forced cells as the released guide's own fill.sh prints them over the translation d9a640818e4e09e9… (all of the seat's roots in one cut). By AI agents, Wed Nov 11 2026. No macro, syntax, notation, axiom, sorry.
-/
import Derived.Test.YtammjbmfiakbnaaGreatDoorChecked
import GoSem.Claim
import GoSem.ClaimJoined
import GoSem.ClaimMapViews
import Derived.JoinedTies
import Derived.KernelRfl
namespace Go.Proofs.YtammjbmfiakbnaaGreatDoor
/- THE CELL 'sum', in the pinned program and in every row, IS THE sha256 OF THE DUMP (.gsa) THAT YtammjbmfiakbnaaGreatDoorProg.lean LOADS. Nothing in Lean hashes anything: it is a label: what it is worth is what the hold of that sum in a sandbox is worth. -/
noncomputable def Tryz.pinned : Pinned := { name := "ytammjbmfiakbnaagreatdoor", sum := "d9a640818e4e09e9da82e19ba5c5eefe3edd880ffdd42e8f5cb747e6ea488282", checked := Tryz.checked }
namespace Rows
def none {H : Type} : Left H := { results := [], args := [] }

/- WHAT THE LISTED PACKAGE-LEVEL VARIABLES READ AS WHEN THE CALL BEGINS. Each datum BY PROGRAM (the guide's laid-datum.mjs) off the statement by which the dump's own 'gosem.cut.vars' lays the variable. In a bare row this is a premise. The card (YtammjbmfiakbnaaGreatDoorCards.lean) ties it to the program's text. -/
def laid_math_bits_deBruijn32tab {H : Type} : DataW H := .agg [.lit (.int .u8 0), .lit (.int .u8 1), .lit (.int .u8 28), .lit (.int .u8 2), .lit (.int .u8 29), .lit (.int .u8 14), .lit (.int .u8 24), .lit (.int .u8 3), .lit (.int .u8 30), .lit (.int .u8 22), .lit (.int .u8 20), .lit (.int .u8 15), .lit (.int .u8 25), .lit (.int .u8 17), .lit (.int .u8 4), .lit (.int .u8 8), .lit (.int .u8 31), .lit (.int .u8 27), .lit (.int .u8 13), .lit (.int .u8 23), .lit (.int .u8 21), .lit (.int .u8 19), .lit (.int .u8 16), .lit (.int .u8 7), .lit (.int .u8 26), .lit (.int .u8 12), .lit (.int .u8 18), .lit (.int .u8 6), .lit (.int .u8 11), .lit (.int .u8 5), .lit (.int .u8 10), .lit (.int .u8 9)]
def laid_math_bits_deBruijn64tab {H : Type} : DataW H := .agg [.lit (.int .u8 0), .lit (.int .u8 1), .lit (.int .u8 56), .lit (.int .u8 2), .lit (.int .u8 57), .lit (.int .u8 49), .lit (.int .u8 28), .lit (.int .u8 3), .lit (.int .u8 61), .lit (.int .u8 58), .lit (.int .u8 42), .lit (.int .u8 50), .lit (.int .u8 38), .lit (.int .u8 29), .lit (.int .u8 17), .lit (.int .u8 4), .lit (.int .u8 62), .lit (.int .u8 47), .lit (.int .u8 59), .lit (.int .u8 36), .lit (.int .u8 45), .lit (.int .u8 43), .lit (.int .u8 51), .lit (.int .u8 22), .lit (.int .u8 53), .lit (.int .u8 39), .lit (.int .u8 33), .lit (.int .u8 30), .lit (.int .u8 24), .lit (.int .u8 18), .lit (.int .u8 12), .lit (.int .u8 5), .lit (.int .u8 63), .lit (.int .u8 55), .lit (.int .u8 48), .lit (.int .u8 27), .lit (.int .u8 60), .lit (.int .u8 41), .lit (.int .u8 37), .lit (.int .u8 16), .lit (.int .u8 46), .lit (.int .u8 35), .lit (.int .u8 44), .lit (.int .u8 21), .lit (.int .u8 52), .lit (.int .u8 32), .lit (.int .u8 23), .lit (.int .u8 11), .lit (.int .u8 54), .lit (.int .u8 26), .lit (.int .u8 40), .lit (.int .u8 15), .lit (.int .u8 34), .lit (.int .u8 20), .lit (.int .u8 31), .lit (.int .u8 10), .lit (.int .u8 25), .lit (.int .u8 14), .lit (.int .u8 19), .lit (.int .u8 9), .lit (.int .u8 13), .lit (.int .u8 8), .lit (.int .u8 7), .lit (.int .u8 6)]
def laid_internal_strconv_uint64pow10 {H : Type} : DataW H := .agg [.lit (.int .u64 1), .lit (.int .u64 10), .lit (.int .u64 100), .lit (.int .u64 1000), .lit (.int .u64 10000), .lit (.int .u64 100000), .lit (.int .u64 1000000), .lit (.int .u64 10000000), .lit (.int .u64 100000000), .lit (.int .u64 1000000000), .lit (.int .u64 10000000000), .lit (.int .u64 100000000000), .lit (.int .u64 1000000000000), .lit (.int .u64 10000000000000), .lit (.int .u64 100000000000000), .lit (.int .u64 1000000000000000), .lit (.int .u64 10000000000000000), .lit (.int .u64 100000000000000000), .lit (.int .u64 1000000000000000000), .lit (.int .u64 10000000000000000000)]
def laid_gocqlframes_pub_gotime_std0x {H : Type} : DataW H := .agg [.lit (.int .i64 260), .lit (.int .i64 265), .lit (.int .i64 1038), .lit (.int .i64 1040), .lit (.int .i64 1042), .lit (.int .i64 276)]
def laid_gocqlframes_pub_gotime_errAtoi {H : Type} : DataW H := .iface "*errors.errorString" (.ptr (.agg [.lit (.string [116, 105, 109, 101, 58, 32, 105, 110, 118, 97, 108, 105, 100, 32, 110, 117, 109, 98, 101, 114])]))
def laid_gocqlframes_pub_gotime_errBad {H : Type} : DataW H := .iface "*errors.errorString" (.ptr (.agg [.lit (.string [98, 97, 100, 32, 118, 97, 108, 117, 101, 32, 102, 111, 114, 32, 102, 105, 101, 108, 100])]))
def laid_gocqlframes_pub_gotime_errLeadingInt {H : Type} : DataW H := .iface "*errors.errorString" (.ptr (.agg [.lit (.string [116, 105, 109, 101, 58, 32, 98, 97, 100, 32, 91, 48, 45, 57, 93, 42])]))
def laid_gocqlframes_pub_gotime_unitMap {H : Type} : DataW H := .map [(.string [104], .lit (.int .u64 3600000000000)), (.string [109], .lit (.int .u64 60000000000)), (.string [109, 115], .lit (.int .u64 1000000)), (.string [110, 115], .lit (.int .u64 1)), (.string [115], .lit (.int .u64 1000000000)), (.string [117, 115], .lit (.int .u64 1000)), (.string [194, 181, 115], .lit (.int .u64 1000)), (.string [206, 188, 115], .lit (.int .u64 1000))]
def laid_strconv_ErrRange {H : Type} : DataW H := .iface "*errors.errorString" (.ptr (.agg [.lit (.string [118, 97, 108, 117, 101, 32, 111, 117, 116, 32, 111, 102, 32, 114, 97, 110, 103, 101])]))
def laid_strconv_ErrSyntax {H : Type} : DataW H := .iface "*errors.errorString" (.ptr (.agg [.lit (.string [105, 110, 118, 97, 108, 105, 100, 32, 115, 121, 110, 116, 97, 120])]))
def laid_io_EOF {H : Type} : DataW H := .iface "*errors.errorString" (.ptr (.agg [.lit (.string [69, 79, 70])]))
def laid_gocqlframes_pub_bigall_errNoDigits {H : Type} : DataW H := .iface "*errors.errorString" (.ptr (.agg [.lit (.string [110, 117, 109, 98, 101, 114, 32, 104, 97, 115, 32, 110, 111, 32, 100, 105, 103, 105, 116, 115])]))
def laid_gocqlframes_pub_bigall_errInvalSep {H : Type} : DataW H := .iface "*errors.errorString" (.ptr (.agg [.lit (.string [39, 95, 39, 32, 109, 117, 115, 116, 32, 115, 101, 112, 97, 114, 97, 116, 101, 32, 115, 117, 99, 99, 101, 115, 115, 105, 118, 101, 32, 100, 105, 103, 105, 116, 115])]))

/-- 'laws.FnMarshal': WHATEVER THE INPUT: true; the input reads as it did. -/
def fnMarshalSpec : ChangeSpec := { name := "fnMarshal", fn := fun _ => fun
  | [d1, d2] => { results := [.lit (.bool true)], args := [d1, d2] }
  | _ => none }
def fnMarshalRow : OpenClaim := { program := "ytammjbmfiakbnaagreatdoor", sum := "d9a640818e4e09e9da82e19ba5c5eefe3edd880ffdd42e8f5cb747e6ea488282", func := "gocqlframes/laws.FnMarshal", spec := "fnMarshal", inPlace := ["math.Float64bits", "math.Float32bits", "math/bits.Add64", "math/bits.Sub64"], unfollowed := true, recurses := true, named := ["io.EOF", "gocqlframes/pub/bigall.errInvalSep", "gocqlframes/pub/bigall.errNoDigits", "strconv.ErrSyntax", "strconv.ErrRange", "internal/strconv.uint64pow10", "math/bits.deBruijn32tab", "math/bits.deBruijn64tab", "gocqlframes/pub/gotime.errBad", "gocqlframes/pub/gotime.errAtoi", "gocqlframes/pub/gotime.errLeadingInt", "gocqlframes/pub/gotime.std0x", "gocqlframes/pub/gotime.unitMap"], loops := true, apart := false, laid := [("math/bits.deBruijn32tab", laid_math_bits_deBruijn32tab), ("math/bits.deBruijn64tab", laid_math_bits_deBruijn64tab), ("internal/strconv.uint64pow10", laid_internal_strconv_uint64pow10), ("gocqlframes/pub/gotime.std0x", laid_gocqlframes_pub_gotime_std0x), ("gocqlframes/pub/gotime.errAtoi", laid_gocqlframes_pub_gotime_errAtoi), ("gocqlframes/pub/gotime.errBad", laid_gocqlframes_pub_gotime_errBad), ("gocqlframes/pub/gotime.errLeadingInt", laid_gocqlframes_pub_gotime_errLeadingInt), ("gocqlframes/pub/gotime.unitMap", laid_gocqlframes_pub_gotime_unitMap), ("strconv.ErrRange", laid_strconv_ErrRange), ("strconv.ErrSyntax", laid_strconv_ErrSyntax), ("io.EOF", laid_io_EOF), ("gocqlframes/pub/bigall.errNoDigits", laid_gocqlframes_pub_bigall_errNoDigits), ("gocqlframes/pub/bigall.errInvalSep", laid_gocqlframes_pub_bigall_errInvalSep)] }
def FnMarshalSaid : Prop := fnMarshalRow.holds Tryz.pinned (OpenSpec.ofChange fnMarshalSpec)

/-- ITS FALSE NEIGHBOUR: 'it returns false'. Refute it at one input. -/
def fnMarshalWrong : ChangeSpec := { name := "fnMarshal", fn := fun _ => fun
  | [d1, d2] => { results := [.lit (.bool false)], args := [d1, d2] }
  | _ => none }
def FnMarshalWrongFalsely : Prop := fnMarshalRow.holds Tryz.pinned (OpenSpec.ofChange fnMarshalWrong)

/-- 'laws.FnNull': WHATEVER THE INPUT: true; the input reads as it did. -/
def fnNullSpec : ChangeSpec := { name := "fnNull", fn := fun _ => fun
  | [d] => { results := [.lit (.bool true)], args := [d] }
  | _ => none }
def fnNullRow : OpenClaim := { program := "ytammjbmfiakbnaagreatdoor", sum := "d9a640818e4e09e9da82e19ba5c5eefe3edd880ffdd42e8f5cb747e6ea488282", func := "gocqlframes/laws.FnNull", spec := "fnNull", inPlace := ["math/bits.Add64", "math/bits.Sub64", "math.Float32bits", "math.Float64bits"], unfollowed := true, recurses := true, named := ["io.EOF", "gocqlframes/pub/bigall.errInvalSep", "gocqlframes/pub/bigall.errNoDigits", "strconv.ErrSyntax", "strconv.ErrRange", "internal/strconv.uint64pow10", "math/bits.deBruijn32tab", "math/bits.deBruijn64tab", "gocqlframes/pub/gotime.errBad", "gocqlframes/pub/gotime.errAtoi", "gocqlframes/pub/gotime.errLeadingInt", "gocqlframes/pub/gotime.std0x", "gocqlframes/pub/gotime.unitMap"], loops := true, apart := false, laid := [("math/bits.deBruijn32tab", laid_math_bits_deBruijn32tab), ("math/bits.deBruijn64tab", laid_math_bits_deBruijn64tab), ("internal/strconv.uint64pow10", laid_internal_strconv_uint64pow10), ("gocqlframes/pub/gotime.std0x", laid_gocqlframes_pub_gotime_std0x), ("gocqlframes/pub/gotime.errAtoi", laid_gocqlframes_pub_gotime_errAtoi), ("gocqlframes/pub/gotime.errBad", laid_gocqlframes_pub_gotime_errBad), ("gocqlframes/pub/gotime.errLeadingInt", laid_gocqlframes_pub_gotime_errLeadingInt), ("gocqlframes/pub/gotime.unitMap", laid_gocqlframes_pub_gotime_unitMap), ("strconv.ErrRange", laid_strconv_ErrRange), ("strconv.ErrSyntax", laid_strconv_ErrSyntax), ("io.EOF", laid_io_EOF), ("gocqlframes/pub/bigall.errNoDigits", laid_gocqlframes_pub_bigall_errNoDigits), ("gocqlframes/pub/bigall.errInvalSep", laid_gocqlframes_pub_bigall_errInvalSep)] }
def FnNullSaid : Prop := fnNullRow.holds Tryz.pinned (OpenSpec.ofChange fnNullSpec)

/-- ITS FALSE NEIGHBOUR: 'it returns false'. Refute it at one input. -/
def fnNullWrong : ChangeSpec := { name := "fnNull", fn := fun _ => fun
  | [d] => { results := [.lit (.bool false)], args := [d] }
  | _ => none }
def FnNullWrongFalsely : Prop := fnNullRow.holds Tryz.pinned (OpenSpec.ofChange fnNullWrong)

/-- 'laws.FnHeader': WHATEVER THE INPUT: true; the input reads as it did. -/
def fnHeaderSpec : ChangeSpec := { name := "fnHeader", fn := fun _ => fun
  | [d1, d2, d3, d4, d5, d6] => { results := [.lit (.bool true)], args := [d1, d2, d3, d4, d5, d6] }
  | _ => none }
def fnHeaderRow : OpenClaim := { program := "ytammjbmfiakbnaagreatdoor", sum := "d9a640818e4e09e9da82e19ba5c5eefe3edd880ffdd42e8f5cb747e6ea488282", func := "gocqlframes/laws.FnHeader", spec := "fnHeader", inPlace := ["math/bits.Add64", "math/bits.Sub64", "math.Float32bits", "math.Float64bits"], unfollowed := true, recurses := true, named := ["io.EOF", "gocqlframes/pub/bigall.errInvalSep", "gocqlframes/pub/bigall.errNoDigits", "strconv.ErrSyntax", "strconv.ErrRange", "internal/strconv.uint64pow10", "math/bits.deBruijn32tab", "math/bits.deBruijn64tab", "gocqlframes/pub/gotime.errBad", "gocqlframes/pub/gotime.errAtoi", "gocqlframes/pub/gotime.errLeadingInt", "gocqlframes/pub/gotime.std0x", "gocqlframes/pub/gotime.unitMap"], apart := false, laid := [("math/bits.deBruijn32tab", laid_math_bits_deBruijn32tab), ("math/bits.deBruijn64tab", laid_math_bits_deBruijn64tab), ("internal/strconv.uint64pow10", laid_internal_strconv_uint64pow10), ("gocqlframes/pub/gotime.std0x", laid_gocqlframes_pub_gotime_std0x), ("gocqlframes/pub/gotime.errAtoi", laid_gocqlframes_pub_gotime_errAtoi), ("gocqlframes/pub/gotime.errBad", laid_gocqlframes_pub_gotime_errBad), ("gocqlframes/pub/gotime.errLeadingInt", laid_gocqlframes_pub_gotime_errLeadingInt), ("gocqlframes/pub/gotime.unitMap", laid_gocqlframes_pub_gotime_unitMap), ("strconv.ErrRange", laid_strconv_ErrRange), ("strconv.ErrSyntax", laid_strconv_ErrSyntax), ("io.EOF", laid_io_EOF), ("gocqlframes/pub/bigall.errNoDigits", laid_gocqlframes_pub_bigall_errNoDigits), ("gocqlframes/pub/bigall.errInvalSep", laid_gocqlframes_pub_bigall_errInvalSep)] }
def FnHeaderSaid : Prop := fnHeaderRow.holds Tryz.pinned (OpenSpec.ofChange fnHeaderSpec)

/-- ITS FALSE NEIGHBOUR: 'it returns false'. Refute it at one input. -/
def fnHeaderWrong : ChangeSpec := { name := "fnHeader", fn := fun _ => fun
  | [d1, d2, d3, d4, d5, d6] => { results := [.lit (.bool false)], args := [d1, d2, d3, d4, d5, d6] }
  | _ => none }
def FnHeaderWrongFalsely : Prop := fnHeaderRow.holds Tryz.pinned (OpenSpec.ofChange fnHeaderWrong)

/- THE SECOND FORM. 'bulk': how many values and letters a reading holds, each counted each time it is reached (what is shared counts as often as it is met; a slice's spare places count too). A statement '..UptoSaid' is the law's where the arguments, and the package variables that the reading takes, are together of bulk at most 1048576: NARROWER than '..Said'. Prove '..Said' where nothing that the law and all that it calls make is longer than what came in: it says more and counts as full. Else prove '..UptoSaid'. A law counts once. -/
mutual
def uptoBulk {H : Type} : DataW H → Nat
  | .lit (.string bytes) => bytes.length + 1
  | .lit _ => 1
  | .nil => 1
  | .ptr d => uptoBulk d + 1
  | .slice elems spare => uptoBulkAll elems + uptoBulkAll spare + 1
  | .agg parts => uptoBulkAll parts + 1
  | .iface _ d => uptoBulk d + 1
  | .map entries => uptoBulkEntries entries + 1
  | .held _ => 1
def uptoBulkAll {H : Type} : List (DataW H) → Nat
  | [] => 0
  | d :: r => uptoBulk d + uptoBulkAll r
def uptoBulkEntries {H : Type} : List (Lit × DataW H) → Nat
  | [] => 0
  | x :: r => uptoBulkEntry x + uptoBulkEntries r
def uptoBulkEntry {H : Type} : Lit × DataW H → Nat
  | (.string bytes, d) => bytes.length + uptoBulk d + 1
  | (_, d) => uptoBulk d + 1
 end
def uptoSmall : (H : Type) → List (DataW H) → Bool := fun _ ds => decide (uptoBulkAll ds ≤ 1048576)
def OpenSpec.upto (s : _root_.Go.ChangeSpec) : _root_.Go.OpenSpec := { _root_.Go.OpenSpec.ofChange s with cond := some uptoSmall }

/-- 'laws.FnMarshal', WHERE WHAT IT READS IS OF BULK AT MOST 1048576: true; the input reads as it did. -/
def fnMarshalUptoRow : OpenClaim := { program := "ytammjbmfiakbnaagreatdoor", sum := "d9a640818e4e09e9da82e19ba5c5eefe3edd880ffdd42e8f5cb747e6ea488282", func := "gocqlframes/laws.FnMarshal", spec := "fnMarshal", inPlace := ["math.Float64bits", "math.Float32bits", "math/bits.Add64", "math/bits.Sub64"], unfollowed := true, recurses := true, named := ["io.EOF", "gocqlframes/pub/bigall.errInvalSep", "gocqlframes/pub/bigall.errNoDigits", "strconv.ErrSyntax", "strconv.ErrRange", "internal/strconv.uint64pow10", "math/bits.deBruijn32tab", "math/bits.deBruijn64tab", "gocqlframes/pub/gotime.errBad", "gocqlframes/pub/gotime.errAtoi", "gocqlframes/pub/gotime.errLeadingInt", "gocqlframes/pub/gotime.std0x", "gocqlframes/pub/gotime.unitMap"], loops := true, apart := false, laid := [("math/bits.deBruijn32tab", laid_math_bits_deBruijn32tab), ("math/bits.deBruijn64tab", laid_math_bits_deBruijn64tab), ("internal/strconv.uint64pow10", laid_internal_strconv_uint64pow10), ("gocqlframes/pub/gotime.std0x", laid_gocqlframes_pub_gotime_std0x), ("gocqlframes/pub/gotime.errAtoi", laid_gocqlframes_pub_gotime_errAtoi), ("gocqlframes/pub/gotime.errBad", laid_gocqlframes_pub_gotime_errBad), ("gocqlframes/pub/gotime.errLeadingInt", laid_gocqlframes_pub_gotime_errLeadingInt), ("gocqlframes/pub/gotime.unitMap", laid_gocqlframes_pub_gotime_unitMap), ("strconv.ErrRange", laid_strconv_ErrRange), ("strconv.ErrSyntax", laid_strconv_ErrSyntax), ("io.EOF", laid_io_EOF), ("gocqlframes/pub/bigall.errNoDigits", laid_gocqlframes_pub_bigall_errNoDigits), ("gocqlframes/pub/bigall.errInvalSep", laid_gocqlframes_pub_bigall_errInvalSep)], narrowed := true }
def FnMarshalUptoSaid : Prop := fnMarshalUptoRow.holds Tryz.pinned (OpenSpec.upto fnMarshalSpec)

/-- 'laws.FnNull', WHERE WHAT IT READS IS OF BULK AT MOST 1048576: true; the input reads as it did. -/
def fnNullUptoRow : OpenClaim := { program := "ytammjbmfiakbnaagreatdoor", sum := "d9a640818e4e09e9da82e19ba5c5eefe3edd880ffdd42e8f5cb747e6ea488282", func := "gocqlframes/laws.FnNull", spec := "fnNull", inPlace := ["math/bits.Add64", "math/bits.Sub64", "math.Float32bits", "math.Float64bits"], unfollowed := true, recurses := true, named := ["io.EOF", "gocqlframes/pub/bigall.errInvalSep", "gocqlframes/pub/bigall.errNoDigits", "strconv.ErrSyntax", "strconv.ErrRange", "internal/strconv.uint64pow10", "math/bits.deBruijn32tab", "math/bits.deBruijn64tab", "gocqlframes/pub/gotime.errBad", "gocqlframes/pub/gotime.errAtoi", "gocqlframes/pub/gotime.errLeadingInt", "gocqlframes/pub/gotime.std0x", "gocqlframes/pub/gotime.unitMap"], loops := true, apart := false, laid := [("math/bits.deBruijn32tab", laid_math_bits_deBruijn32tab), ("math/bits.deBruijn64tab", laid_math_bits_deBruijn64tab), ("internal/strconv.uint64pow10", laid_internal_strconv_uint64pow10), ("gocqlframes/pub/gotime.std0x", laid_gocqlframes_pub_gotime_std0x), ("gocqlframes/pub/gotime.errAtoi", laid_gocqlframes_pub_gotime_errAtoi), ("gocqlframes/pub/gotime.errBad", laid_gocqlframes_pub_gotime_errBad), ("gocqlframes/pub/gotime.errLeadingInt", laid_gocqlframes_pub_gotime_errLeadingInt), ("gocqlframes/pub/gotime.unitMap", laid_gocqlframes_pub_gotime_unitMap), ("strconv.ErrRange", laid_strconv_ErrRange), ("strconv.ErrSyntax", laid_strconv_ErrSyntax), ("io.EOF", laid_io_EOF), ("gocqlframes/pub/bigall.errNoDigits", laid_gocqlframes_pub_bigall_errNoDigits), ("gocqlframes/pub/bigall.errInvalSep", laid_gocqlframes_pub_bigall_errInvalSep)], narrowed := true }
def FnNullUptoSaid : Prop := fnNullUptoRow.holds Tryz.pinned (OpenSpec.upto fnNullSpec)

/-- 'laws.FnHeader', WHERE WHAT IT READS IS OF BULK AT MOST 1048576: true; the input reads as it did. -/
def fnHeaderUptoRow : OpenClaim := { program := "ytammjbmfiakbnaagreatdoor", sum := "d9a640818e4e09e9da82e19ba5c5eefe3edd880ffdd42e8f5cb747e6ea488282", func := "gocqlframes/laws.FnHeader", spec := "fnHeader", inPlace := ["math/bits.Add64", "math/bits.Sub64", "math.Float32bits", "math.Float64bits"], unfollowed := true, recurses := true, named := ["io.EOF", "gocqlframes/pub/bigall.errInvalSep", "gocqlframes/pub/bigall.errNoDigits", "strconv.ErrSyntax", "strconv.ErrRange", "internal/strconv.uint64pow10", "math/bits.deBruijn32tab", "math/bits.deBruijn64tab", "gocqlframes/pub/gotime.errBad", "gocqlframes/pub/gotime.errAtoi", "gocqlframes/pub/gotime.errLeadingInt", "gocqlframes/pub/gotime.std0x", "gocqlframes/pub/gotime.unitMap"], apart := false, laid := [("math/bits.deBruijn32tab", laid_math_bits_deBruijn32tab), ("math/bits.deBruijn64tab", laid_math_bits_deBruijn64tab), ("internal/strconv.uint64pow10", laid_internal_strconv_uint64pow10), ("gocqlframes/pub/gotime.std0x", laid_gocqlframes_pub_gotime_std0x), ("gocqlframes/pub/gotime.errAtoi", laid_gocqlframes_pub_gotime_errAtoi), ("gocqlframes/pub/gotime.errBad", laid_gocqlframes_pub_gotime_errBad), ("gocqlframes/pub/gotime.errLeadingInt", laid_gocqlframes_pub_gotime_errLeadingInt), ("gocqlframes/pub/gotime.unitMap", laid_gocqlframes_pub_gotime_unitMap), ("strconv.ErrRange", laid_strconv_ErrRange), ("strconv.ErrSyntax", laid_strconv_ErrSyntax), ("io.EOF", laid_io_EOF), ("gocqlframes/pub/bigall.errNoDigits", laid_gocqlframes_pub_bigall_errNoDigits), ("gocqlframes/pub/bigall.errInvalSep", laid_gocqlframes_pub_bigall_errInvalSep)], narrowed := true }
def FnHeaderUptoSaid : Prop := fnHeaderUptoRow.holds Tryz.pinned (OpenSpec.upto fnHeaderSpec)

end Rows
end Go.Proofs.YtammjbmfiakbnaaGreatDoor
