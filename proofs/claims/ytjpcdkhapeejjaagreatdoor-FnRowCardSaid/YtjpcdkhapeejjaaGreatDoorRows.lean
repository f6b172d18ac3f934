/-
  NARROWER THAN 'FOR EVERY INPUT', by the rows' own cells (each row's printed sentence says how): FnNext: laid · FnNextIncl: laid · FnPrev: laid · FnPrevIncl: laid · FnQuiet: laid · FnSpaces: laid · FnRow: laid.
  DERIVED. THE GIVEN ROWS OF THIS SEAT. 7 by the template 'for every input the law returns true; each argument reads behind the call as it read before'; 0 by the template 'total and deterministic' (their statements: YtjpcdkhapeejjaaGreatDoorTotals.lean).
  GIVEN WITH THE SEED: the statements are not yours to turn. If you find one false, say at which input.
  Laid BY PROGRAM, IN A SANDBOX (cutbox-rows.mjs): the forced cells as the released guide's own fill.sh prints them over the translation 303fa545bfe7552c… (all of the seat's roots in one cut). By AI agents, Wed Nov 11 2026. No macro, syntax, notation, axiom, sorry.
-/
import Derived.Test.YtjpcdkhapeejjaaGreatDoorChecked
import GoSem.PinnedTables
import GoSem.Claim
import GoSem.ClaimJoined
import GoSem.ClaimMapViews
import Derived.JoinedTies
import Derived.KernelRfl
namespace Go.Proofs.YtjpcdkhapeejjaaGreatDoor
/- THE CELL 'sum', in the pinned program and in every row, IS THE sha256 OF THE DUMP (.gsa) THAT YtjpcdkhapeejjaaGreatDoorProg.lean LOADS. Nothing in Lean hashes anything: it is a label: what it is worth is what the hold of that sum in a sandbox is worth. -/
noncomputable def Tryz.pinned : Pinned := { name := "ytjpcdkhapeejjaagreatdoor", sum := "303fa545bfe7552c23a2dcd4c77b4bda949853f752a3332cc8365f0d8ddfafd2", checked := Tryz.checked }
namespace Rows
def none {H : Type} : Left H := { results := [], args := [] }

/- WHAT THE LISTED PACKAGE-LEVEL VARIABLES READ AS WHEN THE CALL BEGINS. Each datum BY PROGRAM (the guide's laid-datum.mjs) off the statement by which the dump's own 'gosem.cut.vars' lays the variable. In a bare row this is a premise. The card (YtjpcdkhapeejjaaGreatDoorCards.lean) ties it to the program's text. -/
def laid_math_bits_deBruijn32tab {H : Type} : DataW H := .agg [.lit (.int .u8 0), .lit (.int .u8 1), .lit (.int .u8 28), .lit (.int .u8 2), .lit (.int .u8 29), .lit (.int .u8 14), .lit (.int .u8 24), .lit (.int .u8 3), .lit (.int .u8 30), .lit (.int .u8 22), .lit (.int .u8 20), .lit (.int .u8 15), .lit (.int .u8 25), .lit (.int .u8 17), .lit (.int .u8 4), .lit (.int .u8 8), .lit (.int .u8 31), .lit (.int .u8 27), .lit (.int .u8 13), .lit (.int .u8 23), .lit (.int .u8 21), .lit (.int .u8 19), .lit (.int .u8 16), .lit (.int .u8 7), .lit (.int .u8 26), .lit (.int .u8 12), .lit (.int .u8 18), .lit (.int .u8 6), .lit (.int .u8 11), .lit (.int .u8 5), .lit (.int .u8 10), .lit (.int .u8 9)]
def laid_math_bits_deBruijn64tab {H : Type} : DataW H := .agg [.lit (.int .u8 0), .lit (.int .u8 1), .lit (.int .u8 56), .lit (.int .u8 2), .lit (.int .u8 57), .lit (.int .u8 49), .lit (.int .u8 28), .lit (.int .u8 3), .lit (.int .u8 61), .lit (.int .u8 58), .lit (.int .u8 42), .lit (.int .u8 50), .lit (.int .u8 38), .lit (.int .u8 29), .lit (.int .u8 17), .lit (.int .u8 4), .lit (.int .u8 62), .lit (.int .u8 47), .lit (.int .u8 59), .lit (.int .u8 36), .lit (.int .u8 45), .lit (.int .u8 43), .lit (.int .u8 51), .lit (.int .u8 22), .lit (.int .u8 53), .lit (.int .u8 39), .lit (.int .u8 33), .lit (.int .u8 30), .lit (.int .u8 24), .lit (.int .u8 18), .lit (.int .u8 12), .lit (.int .u8 5), .lit (.int .u8 63), .lit (.int .u8 55), .lit (.int .u8 48), .lit (.int .u8 27), .lit (.int .u8 60), .lit (.int .u8 41), .lit (.int .u8 37), .lit (.int .u8 16), .lit (.int .u8 46), .lit (.int .u8 35), .lit (.int .u8 44), .lit (.int .u8 21), .lit (.int .u8 52), .lit (.int .u8 32), .lit (.int .u8 23), .lit (.int .u8 11), .lit (.int .u8 54), .lit (.int .u8 26), .lit (.int .u8 40), .lit (.int .u8 15), .lit (.int .u8 34), .lit (.int .u8 20), .lit (.int .u8 31), .lit (.int .u8 10), .lit (.int .u8 25), .lit (.int .u8 14), .lit (.int .u8 19), .lit (.int .u8 9), .lit (.int .u8 13), .lit (.int .u8 8), .lit (.int .u8 7), .lit (.int .u8 6)]
def laid_internal_strconv_uint64pow10 {H : Type} : DataW H := .agg [.lit (.int .u64 1), .lit (.int .u64 10), .lit (.int .u64 100), .lit (.int .u64 1000), .lit (.int .u64 10000), .lit (.int .u64 100000), .lit (.int .u64 1000000), .lit (.int .u64 10000000), .lit (.int .u64 100000000), .lit (.int .u64 1000000000), .lit (.int .u64 10000000000), .lit (.int .u64 100000000000), .lit (.int .u64 1000000000000), .lit (.int .u64 10000000000000), .lit (.int .u64 100000000000000), .lit (.int .u64 1000000000000000), .lit (.int .u64 10000000000000000), .lit (.int .u64 100000000000000000), .lit (.int .u64 1000000000000000000), .lit (.int .u64 10000000000000000000)]
def laid_unicode_utf8_acceptRanges {H : Type} : DataW H := .agg [.agg [.lit (.int .u8 128), .lit (.int .u8 191)], .agg [.lit (.int .u8 160), .lit (.int .u8 191)], .agg [.lit (.int .u8 128), .lit (.int .u8 159)], .agg [.lit (.int .u8 144), .lit (.int .u8 191)], .agg [.lit (.int .u8 128), .lit (.int .u8 143)], .agg [.lit (.int .u8 0), .lit (.int .u8 0)], .agg [.lit (.int .u8 0), .lit (.int .u8 0)], .agg [.lit (.int .u8 0), .lit (.int .u8 0)], .agg [.lit (.int .u8 0), .lit (.int .u8 0)], .agg [.lit (.int .u8 0), .lit (.int .u8 0)], .agg [.lit (.int .u8 0), .lit (.int .u8 0)], .agg [.lit (.int .u8 0), .lit (.int .u8 0)], .agg [.lit (.int .u8 0), .lit (.int .u8 0)], .agg [.lit (.int .u8 0), .lit (.int .u8 0)], .agg [.lit (.int .u8 0), .lit (.int .u8 0)], .agg [.lit (.int .u8 0), .lit (.int .u8 0)]]
def laid_loop_example_pub_ticksofcron_pub_gotime_std0x {H : Type} : DataW H := .agg [.lit (.int .i64 260), .lit (.int .i64 265), .lit (.int .i64 1038), .lit (.int .i64 1040), .lit (.int .i64 1042), .lit (.int .i64 276)]
def laid_strconv_ErrRange {H : Type} : DataW H := .iface "*errors.errorString" (.ptr (.agg [.lit (.string [118, 97, 108, 117, 101, 32, 111, 117, 116, 32, 111, 102, 32, 114, 97, 110, 103, 101])]))
def laid_strconv_ErrSyntax {H : Type} : DataW H := .iface "*errors.errorString" (.ptr (.agg [.lit (.string [105, 110, 118, 97, 108, 105, 100, 32, 115, 121, 110, 116, 97, 120])]))
/-- One of Go's own tables, pinned by name: the form's constant. -/
def laid_unicode_CaseRanges : DataW Unit := Go.Pinned.caseRanges
/-- One of Go's own tables, pinned by name: the form's constant. -/
def laid_unicode_utf8_first : DataW Unit := Go.Pinned.utf8First

/-- 'laws.FnNext': WHATEVER THE INPUT: true; the input reads as it did. -/
def fnNextSpec : ChangeSpec := { name := "fnNext", vars := ["loop.example/pub-ticksofcron/pub/gotime.std0x"], fn := fun _ => fun
  | [d1, d2, g1] => { results := [.lit (.bool true)], args := [d1, d2], vars := [g1] }
  | _ => none }
def fnNextRow : OpenClaim := { program := "ytjpcdkhapeejjaagreatdoor", sum := "303fa545bfe7552c23a2dcd4c77b4bda949853f752a3332cc8365f0d8ddfafd2", func := "loop.example/pub-ticksofcron/laws.FnNext", spec := "fnNext", inPlace := ["internal/abi.NoEscape", "internal/bytealg.MakeNoZero"], unfollowed := true, recurses := true, named := ["unicode/utf8.first", "unicode/utf8.acceptRanges", "unicode.CaseRanges", "strconv.ErrSyntax", "strconv.ErrRange", "internal/strconv.uint64pow10", "math/bits.deBruijn32tab", "math/bits.deBruijn64tab", "loop.example/pub-ticksofcron/pub/gotime.std0x"], apart := false, laid := [("math/bits.deBruijn32tab", laid_math_bits_deBruijn32tab), ("math/bits.deBruijn64tab", laid_math_bits_deBruijn64tab), ("internal/strconv.uint64pow10", laid_internal_strconv_uint64pow10), ("unicode/utf8.acceptRanges", laid_unicode_utf8_acceptRanges), ("loop.example/pub-ticksofcron/pub/gotime.std0x", laid_loop_example_pub_ticksofcron_pub_gotime_std0x), ("strconv.ErrRange", laid_strconv_ErrRange), ("strconv.ErrSyntax", laid_strconv_ErrSyntax), ("unicode.CaseRanges", laid_unicode_CaseRanges), ("unicode/utf8.first", laid_unicode_utf8_first)] }
def FnNextSaid : Prop := fnNextRow.holds Tryz.pinned (OpenSpec.ofChange fnNextSpec)

/-- ITS FALSE NEIGHBOUR: 'it returns false'. Refute it at one input. -/
def fnNextWrong : ChangeSpec := { name := "fnNext", vars := ["loop.example/pub-ticksofcron/pub/gotime.std0x"], fn := fun _ => fun
  | [d1, d2, g1] => { results := [.lit (.bool false)], args := [d1, d2], vars := [g1] }
  | _ => none }
def FnNextWrongFalsely : Prop := fnNextRow.holds Tryz.pinned (OpenSpec.ofChange fnNextWrong)

/-- 'laws.FnNextIncl': WHATEVER THE INPUT: true; the input reads as it did. -/
def fnNextInclSpec : ChangeSpec := { name := "fnNextIncl", vars := ["loop.example/pub-ticksofcron/pub/gotime.std0x"], fn := fun _ => fun
  | [d1, d2, g1] => { results := [.lit (.bool true)], args := [d1, d2], vars := [g1] }
  | _ => none }
def fnNextInclRow : OpenClaim := { program := "ytjpcdkhapeejjaagreatdoor", sum := "303fa545bfe7552c23a2dcd4c77b4bda949853f752a3332cc8365f0d8ddfafd2", func := "loop.example/pub-ticksofcron/laws.FnNextIncl", spec := "fnNextIncl", inPlace := ["internal/abi.NoEscape", "internal/bytealg.MakeNoZero"], unfollowed := true, recurses := true, named := ["unicode/utf8.first", "unicode/utf8.acceptRanges", "unicode.CaseRanges", "strconv.ErrSyntax", "strconv.ErrRange", "internal/strconv.uint64pow10", "math/bits.deBruijn32tab", "math/bits.deBruijn64tab", "loop.example/pub-ticksofcron/pub/gotime.std0x"], apart := false, laid := [("math/bits.deBruijn32tab", laid_math_bits_deBruijn32tab), ("math/bits.deBruijn64tab", laid_math_bits_deBruijn64tab), ("internal/strconv.uint64pow10", laid_internal_strconv_uint64pow10), ("unicode/utf8.acceptRanges", laid_unicode_utf8_acceptRanges), ("loop.example/pub-ticksofcron/pub/gotime.std0x", laid_loop_example_pub_ticksofcron_pub_gotime_std0x), ("strconv.ErrRange", laid_strconv_ErrRange), ("strconv.ErrSyntax", laid_strconv_ErrSyntax), ("unicode.CaseRanges", laid_unicode_CaseRanges), ("unicode/utf8.first", laid_unicode_utf8_first)] }
def FnNextInclSaid : Prop := fnNextInclRow.holds Tryz.pinned (OpenSpec.ofChange fnNextInclSpec)

/-- ITS FALSE NEIGHBOUR: 'it returns false'. Refute it at one input. -/
def fnNextInclWrong : ChangeSpec := { name := "fnNextIncl", vars := ["loop.example/pub-ticksofcron/pub/gotime.std0x"], fn := fun _ => fun
  | [d1, d2, g1] => { results := [.lit (.bool false)], args := [d1, d2], vars := [g1] }
  | _ => none }
def FnNextInclWrongFalsely : Prop := fnNextInclRow.holds Tryz.pinned (OpenSpec.ofChange fnNextInclWrong)

/-- 'laws.FnPrev': WHATEVER THE INPUT: true; the input reads as it did. -/
def fnPrevSpec : ChangeSpec := { name := "fnPrev", vars := ["loop.example/pub-ticksofcron/pub/gotime.std0x"], fn := fun _ => fun
  | [d1, d2, g1] => { results := [.lit (.bool true)], args := [d1, d2], vars := [g1] }
  | _ => none }
def fnPrevRow : OpenClaim := { program := "ytjpcdkhapeejjaagreatdoor", sum := "303fa545bfe7552c23a2dcd4c77b4bda949853f752a3332cc8365f0d8ddfafd2", func := "loop.example/pub-ticksofcron/laws.FnPrev", spec := "fnPrev", inPlace := ["internal/abi.NoEscape", "internal/bytealg.MakeNoZero"], unfollowed := true, recurses := true, named := ["unicode/utf8.first", "unicode/utf8.acceptRanges", "unicode.CaseRanges", "strconv.ErrSyntax", "strconv.ErrRange", "internal/strconv.uint64pow10", "math/bits.deBruijn32tab", "math/bits.deBruijn64tab", "loop.example/pub-ticksofcron/pub/gotime.std0x"], apart := false, laid := [("math/bits.deBruijn32tab", laid_math_bits_deBruijn32tab), ("math/bits.deBruijn64tab", laid_math_bits_deBruijn64tab), ("internal/strconv.uint64pow10", laid_internal_strconv_uint64pow10), ("unicode/utf8.acceptRanges", laid_unicode_utf8_acceptRanges), ("loop.example/pub-ticksofcron/pub/gotime.std0x", laid_loop_example_pub_ticksofcron_pub_gotime_std0x), ("strconv.ErrRange", laid_strconv_ErrRange), ("strconv.ErrSyntax", laid_strconv_ErrSyntax), ("unicode.CaseRanges", laid_unicode_CaseRanges), ("unicode/utf8.first", laid_unicode_utf8_first)] }
def FnPrevSaid : Prop := fnPrevRow.holds Tryz.pinned (OpenSpec.ofChange fnPrevSpec)

/-- ITS FALSE NEIGHBOUR: 'it returns false'. Refute it at one input. -/
def fnPrevWrong : ChangeSpec := { name := "fnPrev", vars := ["loop.example/pub-ticksofcron/pub/gotime.std0x"], fn := fun _ => fun
  | [d1, d2, g1] => { results := [.lit (.bool false)], args := [d1, d2], vars := [g1] }
  | _ => none }
def FnPrevWrongFalsely : Prop := fnPrevRow.holds Tryz.pinned (OpenSpec.ofChange fnPrevWrong)

/-- 'laws.FnPrevIncl': WHATEVER THE INPUT: true; the input reads as it did. -/
def fnPrevInclSpec : ChangeSpec := { name := "fnPrevIncl", vars := ["loop.example/pub-ticksofcron/pub/gotime.std0x"], fn := fun _ => fun
  | [d1, d2, g1] => { results := [.lit (.bool true)], args := [d1, d2], vars := [g1] }
  | _ => none }
def fnPrevInclRow : OpenClaim := { program := "ytjpcdkhapeejjaagreatdoor", sum := "303fa545bfe7552c23a2dcd4c77b4bda949853f752a3332cc8365f0d8ddfafd2", func := "loop.example/pub-ticksofcron/laws.FnPrevIncl", spec := "fnPrevIncl", inPlace := ["internal/abi.NoEscape", "internal/bytealg.MakeNoZero"], unfollowed := true, recurses := true, named := ["unicode/utf8.first", "unicode/utf8.acceptRanges", "unicode.CaseRanges", "strconv.ErrSyntax", "strconv.ErrRange", "internal/strconv.uint64pow10", "math/bits.deBruijn32tab", "math/bits.deBruijn64tab", "loop.example/pub-ticksofcron/pub/gotime.std0x"], apart := false, laid := [("math/bits.deBruijn32tab", laid_math_bits_deBruijn32tab), ("math/bits.deBruijn64tab", laid_math_bits_deBruijn64tab), ("internal/strconv.uint64pow10", laid_internal_strconv_uint64pow10), ("unicode/utf8.acceptRanges", laid_unicode_utf8_acceptRanges), ("loop.example/pub-ticksofcron/pub/gotime.std0x", laid_loop_example_pub_ticksofcron_pub_gotime_std0x), ("strconv.ErrRange", laid_strconv_ErrRange), ("strconv.ErrSyntax", laid_strconv_ErrSyntax), ("unicode.CaseRanges", laid_unicode_CaseRanges), ("unicode/utf8.first", laid_unicode_utf8_first)] }
def FnPrevInclSaid : Prop := fnPrevInclRow.holds Tryz.pinned (OpenSpec.ofChange fnPrevInclSpec)

/-- ITS FALSE NEIGHBOUR: 'it returns false'. Refute it at one input. -/
def fnPrevInclWrong : ChangeSpec := { name := "fnPrevIncl", vars := ["loop.example/pub-ticksofcron/pub/gotime.std0x"], fn := fun _ => fun
  | [d1, d2, g1] => { results := [.lit (.bool false)], args := [d1, d2], vars := [g1] }
  | _ => none }
def FnPrevInclWrongFalsely : Prop := fnPrevInclRow.holds Tryz.pinned (OpenSpec.ofChange fnPrevInclWrong)

/-- 'laws.FnQuiet': WHATEVER THE INPUT: true; the input reads as it did. -/
def fnQuietSpec : ChangeSpec := { name := "fnQuiet", vars := ["loop.example/pub-ticksofcron/pub/gotime.std0x"], fn := fun _ => fun
  | [d1, d2, d3, g1] => { results := [.lit (.bool true)], args := [d1, d2, d3], vars := [g1] }
  | _ => none }
def fnQuietRow : OpenClaim := { program := "ytjpcdkhapeejjaagreatdoor", sum := "303fa545bfe7552c23a2dcd4c77b4bda949853f752a3332cc8365f0d8ddfafd2", func := "loop.example/pub-ticksofcron/laws.FnQuiet", spec := "fnQuiet", inPlace := ["internal/abi.NoEscape", "internal/bytealg.MakeNoZero"], unfollowed := true, recurses := true, named := ["unicode/utf8.first", "unicode/utf8.acceptRanges", "unicode.CaseRanges", "strconv.ErrSyntax", "strconv.ErrRange", "internal/strconv.uint64pow10", "math/bits.deBruijn32tab", "math/bits.deBruijn64tab", "loop.example/pub-ticksofcron/pub/gotime.std0x"], apart := false, laid := [("math/bits.deBruijn32tab", laid_math_bits_deBruijn32tab), ("math/bits.deBruijn64tab", laid_math_bits_deBruijn64tab), ("internal/strconv.uint64pow10", laid_internal_strconv_uint64pow10), ("unicode/utf8.acceptRanges", laid_unicode_utf8_acceptRanges), ("loop.example/pub-ticksofcron/pub/gotime.std0x", laid_loop_example_pub_ticksofcron_pub_gotime_std0x), ("strconv.ErrRange", laid_strconv_ErrRange), ("strconv.ErrSyntax", laid_strconv_ErrSyntax), ("unicode.CaseRanges", laid_unicode_CaseRanges), ("unicode/utf8.first", laid_unicode_utf8_first)] }
def FnQuietSaid : Prop := fnQuietRow.holds Tryz.pinned (OpenSpec.ofChange fnQuietSpec)

/-- ITS FALSE NEIGHBOUR: 'it returns false'. Refute it at one input. -/
def fnQuietWrong : ChangeSpec := { name := "fnQuiet", vars := ["loop.example/pub-ticksofcron/pub/gotime.std0x"], fn := fun _ => fun
  | [d1, d2, d3, g1] => { results := [.lit (.bool false)], args := [d1, d2, d3], vars := [g1] }
  | _ => none }
def FnQuietWrongFalsely : Prop := fnQuietRow.holds Tryz.pinned (OpenSpec.ofChange fnQuietWrong)

/-- 'laws.FnSpaces': WHATEVER THE INPUT: true; the input reads as it did. -/
def fnSpacesSpec : ChangeSpec := { name := "fnSpaces", vars := ["loop.example/pub-ticksofcron/pub/gotime.std0x"], fn := fun _ => fun
  | [d1, d2, d3, g1] => { results := [.lit (.bool true)], args := [d1, d2, d3], vars := [g1] }
  | _ => none }
def fnSpacesRow : OpenClaim := { program := "ytjpcdkhapeejjaagreatdoor", sum := "303fa545bfe7552c23a2dcd4c77b4bda949853f752a3332cc8365f0d8ddfafd2", func := "loop.example/pub-ticksofcron/laws.FnSpaces", spec := "fnSpaces", inPlace := ["internal/abi.NoEscape", "internal/bytealg.MakeNoZero"], unfollowed := true, recurses := true, named := ["unicode/utf8.first", "unicode/utf8.acceptRanges", "unicode.CaseRanges", "strconv.ErrSyntax", "strconv.ErrRange", "internal/strconv.uint64pow10", "math/bits.deBruijn32tab", "math/bits.deBruijn64tab", "loop.example/pub-ticksofcron/pub/gotime.std0x"], apart := false, laid := [("math/bits.deBruijn32tab", laid_math_bits_deBruijn32tab), ("math/bits.deBruijn64tab", laid_math_bits_deBruijn64tab), ("internal/strconv.uint64pow10", laid_internal_strconv_uint64pow10), ("unicode/utf8.acceptRanges", laid_unicode_utf8_acceptRanges), ("loop.example/pub-ticksofcron/pub/gotime.std0x", laid_loop_example_pub_ticksofcron_pub_gotime_std0x), ("strconv.ErrRange", laid_strconv_ErrRange), ("strconv.ErrSyntax", laid_strconv_ErrSyntax), ("unicode.CaseRanges", laid_unicode_CaseRanges), ("unicode/utf8.first", laid_unicode_utf8_first)] }
def FnSpacesSaid : Prop := fnSpacesRow.holds Tryz.pinned (OpenSpec.ofChange fnSpacesSpec)

/-- ITS FALSE NEIGHBOUR: 'it returns false'. Refute it at one input. -/
def fnSpacesWrong : ChangeSpec := { name := "fnSpaces", vars := ["loop.example/pub-ticksofcron/pub/gotime.std0x"], fn := fun _ => fun
  | [d1, d2, d3, g1] => { results := [.lit (.bool false)], args := [d1, d2, d3], vars := [g1] }
  | _ => none }
def FnSpacesWrongFalsely : Prop := fnSpacesRow.holds Tryz.pinned (OpenSpec.ofChange fnSpacesWrong)

/-- 'laws.FnRow': WHATEVER THE INPUT: true; the input reads as it did. -/
def fnRowSpec : ChangeSpec := { name := "fnRow", vars := ["loop.example/pub-ticksofcron/pub/gotime.std0x"], fn := fun _ => fun
  | [d1, d2, d3, g1] => { results := [.lit (.bool true)], args := [d1, d2, d3], vars := [g1] }
  | _ => none }
def fnRowRow : OpenClaim := { program := "ytjpcdkhapeejjaagreatdoor", sum := "303fa545bfe7552c23a2dcd4c77b4bda949853f752a3332cc8365f0d8ddfafd2", func := "loop.example/pub-ticksofcron/laws.FnRow", spec := "fnRow", inPlace := ["internal/abi.NoEscape", "internal/bytealg.MakeNoZero"], unfollowed := true, recurses := true, named := ["unicode/utf8.first", "unicode/utf8.acceptRanges", "unicode.CaseRanges", "strconv.ErrSyntax", "strconv.ErrRange", "internal/strconv.uint64pow10", "math/bits.deBruijn32tab", "math/bits.deBruijn64tab", "loop.example/pub-ticksofcron/pub/gotime.std0x"], apart := false, laid := [("math/bits.deBruijn32tab", laid_math_bits_deBruijn32tab), ("math/bits.deBruijn64tab", laid_math_bits_deBruijn64tab), ("internal/strconv.uint64pow10", laid_internal_strconv_uint64pow10), ("unicode/utf8.acceptRanges", laid_unicode_utf8_acceptRanges), ("loop.example/pub-ticksofcron/pub/gotime.std0x", laid_loop_example_pub_ticksofcron_pub_gotime_std0x), ("strconv.ErrRange", laid_strconv_ErrRange), ("strconv.ErrSyntax", laid_strconv_ErrSyntax), ("unicode.CaseRanges", laid_unicode_CaseRanges), ("unicode/utf8.first", laid_unicode_utf8_first)] }
def FnRowSaid : Prop := fnRowRow.holds Tryz.pinned (OpenSpec.ofChange fnRowSpec)

/-- ITS FALSE NEIGHBOUR: 'it returns false'. Refute it at one input. -/
def fnRowWrong : ChangeSpec := { name := "fnRow", vars := ["loop.example/pub-ticksofcron/pub/gotime.std0x"], fn := fun _ => fun
  | [d1, d2, d3, g1] => { results := [.lit (.bool false)], args := [d1, d2, d3], vars := [g1] }
  | _ => none }
def FnRowWrongFalsely : Prop := fnRowRow.holds Tryz.pinned (OpenSpec.ofChange fnRowWrong)

/- THE SECOND FORM. 'bulk': how many values and letters a reading holds, each counted each time it is reached (what is shared counts as often as it is met; a slice's spare places count too). A statement '..UptoSaid' is the law's where the arguments, and the package variables that the reading takes, are together of bulk at most 1048576: NARROWER than '..Said'. Prove '..Said' where nothing that the law and all that it calls make is longer than what came in: it says more and counts as full. Else prove '..UptoSaid'. A law counts once. -/
mutual
def uptoBulk {H : Type} : DataW H → Nat
  | .lit (.string bytes) => bytes.length + 1
  | .lit _ => 1
  | .nil => 1
  | .ptr d => uptoBulk d + 1
  | .slice elems spare => uptoBulkAll elems + uptoBulkAll spare + 1
  | .agg parts => uptoBulkAll parts + 1
  | .iface _ d => uptoBulk d + 1
  | .map entries => uptoBulkEntries entries + 1
  | .held _ => 1
def uptoBulkAll {H : Type} : List (DataW H) → Nat
  | [] => 0
  | d :: r => uptoBulk d + uptoBulkAll r
def uptoBulkEntries {H : Type} : List (Lit × DataW H) → Nat
  | [] => 0
  | x :: r => uptoBulkEntry x + uptoBulkEntries r
def uptoBulkEntry {H : Type} : Lit × DataW H → Nat
  | (.string bytes, d) => bytes.length + uptoBulk d + 1
  | (_, d) => uptoBulk d + 1
 end
def uptoSmall : (H : Type) → List (DataW H) → Bool := fun _ ds => decide (uptoBulkAll ds ≤ 1048576)
def OpenSpec.upto (s : _root_.Go.ChangeSpec) : _root_.Go.OpenSpec := { _root_.Go.OpenSpec.ofChange s with cond := some uptoSmall }

/-- 'laws.FnNext', WHERE WHAT IT READS IS OF BULK AT MOST 1048576: true; the input reads as it did. -/
def fnNextUptoRow : OpenClaim := { program := "ytjpcdkhapeejjaagreatdoor", sum := "303fa545bfe7552c23a2dcd4c77b4bda949853f752a3332cc8365f0d8ddfafd2", func := "loop.example/pub-ticksofcron/laws.FnNext", spec := "fnNext", inPlace := ["internal/abi.NoEscape", "internal/bytealg.MakeNoZero"], unfollowed := true, recurses := true, named := ["unicode/utf8.first", "unicode/utf8.acceptRanges", "unicode.CaseRanges", "strconv.ErrSyntax", "strconv.ErrRange", "internal/strconv.uint64pow10", "math/bits.deBruijn32tab", "math/bits.deBruijn64tab", "loop.example/pub-ticksofcron/pub/gotime.std0x"], apart := false, laid := [("math/bits.deBruijn32tab", laid_math_bits_deBruijn32tab), ("math/bits.deBruijn64tab", laid_math_bits_deBruijn64tab), ("internal/strconv.uint64pow10", laid_internal_strconv_uint64pow10), ("unicode/utf8.acceptRanges", laid_unicode_utf8_acceptRanges), ("loop.example/pub-ticksofcron/pub/gotime.std0x", laid_loop_example_pub_ticksofcron_pub_gotime_std0x), ("strconv.ErrRange", laid_strconv_ErrRange), ("strconv.ErrSyntax", laid_strconv_ErrSyntax), ("unicode.CaseRanges", laid_unicode_CaseRanges), ("unicode/utf8.first", laid_unicode_utf8_first)], narrowed := true }
def FnNextUptoSaid : Prop := fnNextUptoRow.holds Tryz.pinned (OpenSpec.upto fnNextSpec)

/-- 'laws.FnNextIncl', WHERE WHAT IT READS IS OF BULK AT MOST 1048576: true; the input reads as it did. -/
def fnNextInclUptoRow : OpenClaim := { program := "ytjpcdkhapeejjaagreatdoor", sum := "303fa545bfe7552c23a2dcd4c77b4bda949853f752a3332cc8365f0d8ddfafd2", func := "loop.example/pub-ticksofcron/laws.FnNextIncl", spec := "fnNextIncl", inPlace := ["internal/abi.NoEscape", "internal/bytealg.MakeNoZero"], unfollowed := true, recurses := true, named := ["unicode/utf8.first", "unicode/utf8.acceptRanges", "unicode.CaseRanges", "strconv.ErrSyntax", "strconv.ErrRange", "internal/strconv.uint64pow10", "math/bits.deBruijn32tab", "math/bits.deBruijn64tab", "loop.example/pub-ticksofcron/pub/gotime.std0x"], apart := false, laid := [("math/bits.deBruijn32tab", laid_math_bits_deBruijn32tab), ("math/bits.deBruijn64tab", laid_math_bits_deBruijn64tab), ("internal/strconv.uint64pow10", laid_internal_strconv_uint64pow10), ("unicode/utf8.acceptRanges", laid_unicode_utf8_acceptRanges), ("loop.example/pub-ticksofcron/pub/gotime.std0x", laid_loop_example_pub_ticksofcron_pub_gotime_std0x), ("strconv.ErrRange", laid_strconv_ErrRange), ("strconv.ErrSyntax", laid_strconv_ErrSyntax), ("unicode.CaseRanges", laid_unicode_CaseRanges), ("unicode/utf8.first", laid_unicode_utf8_first)], narrowed := true }
def FnNextInclUptoSaid : Prop := fnNextInclUptoRow.holds Tryz.pinned (OpenSpec.upto fnNextInclSpec)

/-- 'laws.FnPrev', WHERE WHAT IT READS IS OF BULK AT MOST 1048576: true; the input reads as it did. -/
def fnPrevUptoRow : OpenClaim := { program := "ytjpcdkhapeejjaagreatdoor", sum := "303fa545bfe7552c23a2dcd4c77b4bda949853f752a3332cc8365f0d8ddfafd2", func := "loop.example/pub-ticksofcron/laws.FnPrev", spec := "fnPrev", inPlace := ["internal/abi.NoEscape", "internal/bytealg.MakeNoZero"], unfollowed := true, recurses := true, named := ["unicode/utf8.first", "unicode/utf8.acceptRanges", "unicode.CaseRanges", "strconv.ErrSyntax", "strconv.ErrRange", "internal/strconv.uint64pow10", "math/bits.deBruijn32tab", "math/bits.deBruijn64tab", "loop.example/pub-ticksofcron/pub/gotime.std0x"], apart := false, laid := [("math/bits.deBruijn32tab", laid_math_bits_deBruijn32tab), ("math/bits.deBruijn64tab", laid_math_bits_deBruijn64tab), ("internal/strconv.uint64pow10", laid_internal_strconv_uint64pow10), ("unicode/utf8.acceptRanges", laid_unicode_utf8_acceptRanges), ("loop.example/pub-ticksofcron/pub/gotime.std0x", laid_loop_example_pub_ticksofcron_pub_gotime_std0x), ("strconv.ErrRange", laid_strconv_ErrRange), ("strconv.ErrSyntax", laid_strconv_ErrSyntax), ("unicode.CaseRanges", laid_unicode_CaseRanges), ("unicode/utf8.first", laid_unicode_utf8_first)], narrowed := true }
def FnPrevUptoSaid : Prop := fnPrevUptoRow.holds Tryz.pinned (OpenSpec.upto fnPrevSpec)

/-- 'laws.FnPrevIncl', WHERE WHAT IT READS IS OF BULK AT MOST 1048576: true; the input reads as it did. -/
def fnPrevInclUptoRow : OpenClaim := { program := "ytjpcdkhapeejjaagreatdoor", sum := "303fa545bfe7552c23a2dcd4c77b4bda949853f752a3332cc8365f0d8ddfafd2", func := "loop.example/pub-ticksofcron/laws.FnPrevIncl", spec := "fnPrevIncl", inPlace := ["internal/abi.NoEscape", "internal/bytealg.MakeNoZero"], unfollowed := true, recurses := true, named := ["unicode/utf8.first", "unicode/utf8.acceptRanges", "unicode.CaseRanges", "strconv.ErrSyntax", "strconv.ErrRange", "internal/strconv.uint64pow10", "math/bits.deBruijn32tab", "math/bits.deBruijn64tab", "loop.example/pub-ticksofcron/pub/gotime.std0x"], apart := false, laid := [("math/bits.deBruijn32tab", laid_math_bits_deBruijn32tab), ("math/bits.deBruijn64tab", laid_math_bits_deBruijn64tab), ("internal/strconv.uint64pow10", laid_internal_strconv_uint64pow10), ("unicode/utf8.acceptRanges", laid_unicode_utf8_acceptRanges), ("loop.example/pub-ticksofcron/pub/gotime.std0x", laid_loop_example_pub_ticksofcron_pub_gotime_std0x), ("strconv.ErrRange", laid_strconv_ErrRange), ("strconv.ErrSyntax", laid_strconv_ErrSyntax), ("unicode.CaseRanges", laid_unicode_CaseRanges), ("unicode/utf8.first", laid_unicode_utf8_first)], narrowed := true }
def FnPrevInclUptoSaid : Prop := fnPrevInclUptoRow.holds Tryz.pinned (OpenSpec.upto fnPrevInclSpec)

/-- 'laws.FnQuiet', WHERE WHAT IT READS IS OF BULK AT MOST 1048576: true; the input reads as it did. -/
def fnQuietUptoRow : OpenClaim := { program := "ytjpcdkhapeejjaagreatdoor", sum := "303fa545bfe7552c23a2dcd4c77b4bda949853f752a3332cc8365f0d8ddfafd2", func := "loop.example/pub-ticksofcron/laws.FnQuiet", spec := "fnQuiet", inPlace := ["internal/abi.NoEscape", "internal/bytealg.MakeNoZero"], unfollowed := true, recurses := true, named := ["unicode/utf8.first", "unicode/utf8.acceptRanges", "unicode.CaseRanges", "strconv.ErrSyntax", "strconv.ErrRange", "internal/strconv.uint64pow10", "math/bits.deBruijn32tab", "math/bits.deBruijn64tab", "loop.example/pub-ticksofcron/pub/gotime.std0x"], apart := false, laid := [("math/bits.deBruijn32tab", laid_math_bits_deBruijn32tab), ("math/bits.deBruijn64tab", laid_math_bits_deBruijn64tab), ("internal/strconv.uint64pow10", laid_internal_strconv_uint64pow10), ("unicode/utf8.acceptRanges", laid_unicode_utf8_acceptRanges), ("loop.example/pub-ticksofcron/pub/gotime.std0x", laid_loop_example_pub_ticksofcron_pub_gotime_std0x), ("strconv.ErrRange", laid_strconv_ErrRange), ("strconv.ErrSyntax", laid_strconv_ErrSyntax), ("unicode.CaseRanges", laid_unicode_CaseRanges), ("unicode/utf8.first", laid_unicode_utf8_first)], narrowed := true }
def FnQuietUptoSaid : Prop := fnQuietUptoRow.holds Tryz.pinned (OpenSpec.upto fnQuietSpec)

/-- 'laws.FnSpaces', WHERE WHAT IT READS IS OF BULK AT MOST 1048576: true; the input reads as it did. -/
def fnSpacesUptoRow : OpenClaim := { program := "ytjpcdkhapeejjaagreatdoor", sum := "303fa545bfe7552c23a2dcd4c77b4bda949853f752a3332cc8365f0d8ddfafd2", func := "loop.example/pub-ticksofcron/laws.FnSpaces", spec := "fnSpaces", inPlace := ["internal/abi.NoEscape", "internal/bytealg.MakeNoZero"], unfollowed := true, recurses := true, named := ["unicode/utf8.first", "unicode/utf8.acceptRanges", "unicode.CaseRanges", "strconv.ErrSyntax", "strconv.ErrRange", "internal/strconv.uint64pow10", "math/bits.deBruijn32tab", "math/bits.deBruijn64tab", "loop.example/pub-ticksofcron/pub/gotime.std0x"], apart := false, laid := [("math/bits.deBruijn32tab", laid_math_bits_deBruijn32tab), ("math/bits.deBruijn64tab", laid_math_bits_deBruijn64tab), ("internal/strconv.uint64pow10", laid_internal_strconv_uint64pow10), ("unicode/utf8.acceptRanges", laid_unicode_utf8_acceptRanges), ("loop.example/pub-ticksofcron/pub/gotime.std0x", laid_loop_example_pub_ticksofcron_pub_gotime_std0x), ("strconv.ErrRange", laid_strconv_ErrRange), ("strconv.ErrSyntax", laid_strconv_ErrSyntax), ("unicode.CaseRanges", laid_unicode_CaseRanges), ("unicode/utf8.first", laid_unicode_utf8_first)], narrowed := true }
def FnSpacesUptoSaid : Prop := fnSpacesUptoRow.holds Tryz.pinned (OpenSpec.upto fnSpacesSpec)

/-- 'laws.FnRow', WHERE WHAT IT READS IS OF BULK AT MOST 1048576: true; the input reads as it did. -/
def fnRowUptoRow : OpenClaim := { program := "ytjpcdkhapeejjaagreatdoor", sum := "303fa545bfe7552c23a2dcd4c77b4bda949853f752a3332cc8365f0d8ddfafd2", func := "loop.example/pub-ticksofcron/laws.FnRow", spec := "fnRow", inPlace := ["internal/abi.NoEscape", "internal/bytealg.MakeNoZero"], unfollowed := true, recurses := true, named := ["unicode/utf8.first", "unicode/utf8.acceptRanges", "unicode.CaseRanges", "strconv.ErrSyntax", "strconv.ErrRange", "internal/strconv.uint64pow10", "math/bits.deBruijn32tab", "math/bits.deBruijn64tab", "loop.example/pub-ticksofcron/pub/gotime.std0x"], apart := false, laid := [("math/bits.deBruijn32tab", laid_math_bits_deBruijn32tab), ("math/bits.deBruijn64tab", laid_math_bits_deBruijn64tab), ("internal/strconv.uint64pow10", laid_internal_strconv_uint64pow10), ("unicode/utf8.acceptRanges", laid_unicode_utf8_acceptRanges), ("loop.example/pub-ticksofcron/pub/gotime.std0x", laid_loop_example_pub_ticksofcron_pub_gotime_std0x), ("strconv.ErrRange", laid_strconv_ErrRange), ("strconv.ErrSyntax", laid_strconv_ErrSyntax), ("unicode.CaseRanges", laid_unicode_CaseRanges), ("unicode/utf8.first", laid_unicode_utf8_first)], narrowed := true }
def FnRowUptoSaid : Prop := fnRowUptoRow.holds Tryz.pinned (OpenSpec.upto fnRowSpec)

end Rows
end Go.Proofs.YtjpcdkhapeejjaaGreatDoor
