/-
  NARROWER THAN 'FOR EVERY INPUT', by the rows' own cells (each row's printed sentence says how): FnAutolink: laid · FnEscaped: laid · FnFence: laid · FnImages: laid · FnLazy: laid · FnLiteralLines: laid · FnOpenTag: laid · FnOutdent: laid · FnSeven: laid · FnSmartQuotes: laid · FnStruck: laid · FnUnclosed: laid.
  DERIVED. THE GIVEN ROWS OF THIS SEAT. 12 by the template 'for every input the law returns true; each argument reads behind the call as it read before'; 0 by the template 'total and deterministic' (their statements: YtdnlfdppjfjncaaGreatDoorTotals.lean).
  GIVEN WITH THE SEED: the statements are not yours to turn. If you find one false, say at which input.
  Laid BY PROGRAM, IN A SANDBOX (cutbox-rows.mjs): the forced cells as the released guide's own fill.sh prints them over the translation 8c4e3587873fd939… (all of the seat's roots in one cut). By AI agents, Wed Nov 11 2026. No macro, syntax, notation, axiom, sorry.
-/
import Derived.Test.YtdnlfdppjfjncaaGreatDoorChecked
import GoSem.PinnedTables
import GoSem.Claim
import GoSem.ClaimJoined
import GoSem.ClaimMapViews
import Derived.JoinedTies
import Derived.KernelRfl
namespace Go.Proofs.YtdnlfdppjfjncaaGreatDoor
/- THE CELL 'sum', in the pinned program and in every row, IS THE sha256 OF THE DUMP (.gsa) THAT YtdnlfdppjfjncaaGreatDoorProg.lean LOADS. Nothing in Lean hashes anything: it is a label: what it is worth is what the hold of that sum in a sandbox is worth. -/
noncomputable def Tryz.pinned : Pinned := { name := "ytdnlfdppjfjncaagreatdoor", sum := "8c4e3587873fd93997c757213591dbbfe23156804ba9228dd626bc4f0ba8e3da", checked := Tryz.checked }
namespace Rows
def none {H : Type} : Left H := { results := [], args := [] }

/- WHAT THE LISTED PACKAGE-LEVEL VARIABLES READ AS WHEN THE CALL BEGINS. Each datum BY PROGRAM (the guide's laid-datum.mjs) off the statement by which the dump's own 'gosem.cut.vars' lays the variable. In a bare row this is a premise. The card (YtdnlfdppjfjncaaGreatDoorCards.lean) ties it to the program's text. -/
def laid_math_bits_deBruijn32tab {H : Type} : DataW H := .agg [.lit (.int .u8 0), .lit (.int .u8 1), .lit (.int .u8 28), .lit (.int .u8 2), .lit (.int .u8 29), .lit (.int .u8 14), .lit (.int .u8 24), .lit (.int .u8 3), .lit (.int .u8 30), .lit (.int .u8 22), .lit (.int .u8 20), .lit (.int .u8 15), .lit (.int .u8 25), .lit (.int .u8 17), .lit (.int .u8 4), .lit (.int .u8 8), .lit (.int .u8 31), .lit (.int .u8 27), .lit (.int .u8 13), .lit (.int .u8 23), .lit (.int .u8 21), .lit (.int .u8 19), .lit (.int .u8 16), .lit (.int .u8 7), .lit (.int .u8 26), .lit (.int .u8 12), .lit (.int .u8 18), .lit (.int .u8 6), .lit (.int .u8 11), .lit (.int .u8 5), .lit (.int .u8 10), .lit (.int .u8 9)]
def laid_math_bits_deBruijn64tab {H : Type} : DataW H := .agg [.lit (.int .u8 0), .lit (.int .u8 1), .lit (.int .u8 56), .lit (.int .u8 2), .lit (.int .u8 57), .lit (.int .u8 49), .lit (.int .u8 28), .lit (.int .u8 3), .lit (.int .u8 61), .lit (.int .u8 58), .lit (.int .u8 42), .lit (.int .u8 50), .lit (.int .u8 38), .lit (.int .u8 29), .lit (.int .u8 17), .lit (.int .u8 4), .lit (.int .u8 62), .lit (.int .u8 47), .lit (.int .u8 59), .lit (.int .u8 36), .lit (.int .u8 45), .lit (.int .u8 43), .lit (.int .u8 51), .lit (.int .u8 22), .lit (.int .u8 53), .lit (.int .u8 39), .lit (.int .u8 33), .lit (.int .u8 30), .lit (.int .u8 24), .lit (.int .u8 18), .lit (.int .u8 12), .lit (.int .u8 5), .lit (.int .u8 63), .lit (.int .u8 55), .lit (.int .u8 48), .lit (.int .u8 27), .lit (.int .u8 60), .lit (.int .u8 41), .lit (.int .u8 37), .lit (.int .u8 16), .lit (.int .u8 46), .lit (.int .u8 35), .lit (.int .u8 44), .lit (.int .u8 21), .lit (.int .u8 52), .lit (.int .u8 32), .lit (.int .u8 23), .lit (.int .u8 11), .lit (.int .u8 54), .lit (.int .u8 26), .lit (.int .u8 40), .lit (.int .u8 15), .lit (.int .u8 34), .lit (.int .u8 20), .lit (.int .u8 31), .lit (.int .u8 10), .lit (.int .u8 25), .lit (.int .u8 14), .lit (.int .u8 19), .lit (.int .u8 9), .lit (.int .u8 13), .lit (.int .u8 8), .lit (.int .u8 7), .lit (.int .u8 6)]
def laid_internal_strconv_uint64pow10 {H : Type} : DataW H := .agg [.lit (.int .u64 1), .lit (.int .u64 10), .lit (.int .u64 100), .lit (.int .u64 1000), .lit (.int .u64 10000), .lit (.int .u64 100000), .lit (.int .u64 1000000), .lit (.int .u64 10000000), .lit (.int .u64 100000000), .lit (.int .u64 1000000000), .lit (.int .u64 10000000000), .lit (.int .u64 100000000000), .lit (.int .u64 1000000000000), .lit (.int .u64 10000000000000), .lit (.int .u64 100000000000000), .lit (.int .u64 1000000000000000), .lit (.int .u64 10000000000000000), .lit (.int .u64 100000000000000000), .lit (.int .u64 1000000000000000000), .lit (.int .u64 10000000000000000000)]
def laid_unicode_utf8_acceptRanges {H : Type} : DataW H := .agg [.agg [.lit (.int .u8 128), .lit (.int .u8 191)], .agg [.lit (.int .u8 160), .lit (.int .u8 191)], .agg [.lit (.int .u8 128), .lit (.int .u8 159)], .agg [.lit (.int .u8 144), .lit (.int .u8 191)], .agg [.lit (.int .u8 128), .lit (.int .u8 143)], .agg [.lit (.int .u8 0), .lit (.int .u8 0)], .agg [.lit (.int .u8 0), .lit (.int .u8 0)], .agg [.lit (.int .u8 0), .lit (.int .u8 0)], .agg [.lit (.int .u8 0), .lit (.int .u8 0)], .agg [.lit (.int .u8 0), .lit (.int .u8 0)], .agg [.lit (.int .u8 0), .lit (.int .u8 0)], .agg [.lit (.int .u8 0), .lit (.int .u8 0)], .agg [.lit (.int .u8 0), .lit (.int .u8 0)], .agg [.lit (.int .u8 0), .lit (.int .u8 0)], .agg [.lit (.int .u8 0), .lit (.int .u8 0)], .agg [.lit (.int .u8 0), .lit (.int .u8 0)]]
def laid_strconv_ErrRange {H : Type} : DataW H := .iface "*errors.errorString" (.ptr (.agg [.lit (.string [118, 97, 108, 117, 101, 32, 111, 117, 116, 32, 111, 102, 32, 114, 97, 110, 103, 101])]))
def laid_strconv_ErrSyntax {H : Type} : DataW H := .iface "*errors.errorString" (.ptr (.agg [.lit (.string [105, 110, 118, 97, 108, 105, 100, 32, 115, 121, 110, 116, 97, 120])]))
def laid_pub_paratext_pub_rscmarkdown_htmlEntities {H : Type} : DataW H := .agg [.agg [.lit (.string [38, 97, 109, 112, 59]), .lit (.string [38])], .agg [.lit (.string [38, 97, 112, 111, 115, 59]), .lit (.string [39])], .agg [.lit (.string [38, 99, 111, 112, 121, 59]), .lit (.string [194, 169])], .agg [.lit (.string [38, 102, 114, 97, 99, 51, 52, 59]), .lit (.string [194, 190])], .agg [.lit (.string [38, 103, 116, 59]), .lit (.string [62])], .agg [.lit (.string [38, 104, 101, 108, 108, 105, 112, 59]), .lit (.string [226, 128, 166])], .agg [.lit (.string [38, 108, 116, 59]), .lit (.string [60])], .agg [.lit (.string [38, 109, 100, 97, 115, 104, 59]), .lit (.string [226, 128, 148])], .agg [.lit (.string [38, 110, 98, 115, 112, 59]), .lit (.string [194, 160])], .agg [.lit (.string [38, 110, 100, 97, 115, 104, 59]), .lit (.string [226, 128, 147])], .agg [.lit (.string [38, 113, 117, 111, 116, 59]), .lit (.string [34])], .agg [.lit (.string [38, 114, 101, 103, 59]), .lit (.string [194, 174])]]
/-- One of Go's own tables, pinned by name: the form's constant. -/
def laid_unicode_utf8_first : DataW Unit := Go.Pinned.utf8First

/-- 'laws.FnAutolink': WHATEVER THE INPUT: true; the input reads as it did. -/
def fnAutolinkSpec : ChangeSpec := { name := "fnAutolink", fn := fun _ => fun
  | [d1, d2] => { results := [.lit (.bool true)], args := [d1, d2] }
  | _ => none }
def fnAutolinkRow : OpenClaim := { program := "ytdnlfdppjfjncaagreatdoor", sum := "8c4e3587873fd93997c757213591dbbfe23156804ba9228dd626bc4f0ba8e3da", func := "pub-paratext/laws.FnAutolink", spec := "fnAutolink", inPlace := ["internal/bytealg.IndexByteString", "internal/abi.NoEscape", "internal/bytealg.MakeNoZero"], unfollowed := true, recurses := true, named := ["unicode/utf8.first", "unicode/utf8.acceptRanges", "pub-paratext/pub/rscmarkdown.htmlEntities", "strconv.ErrSyntax", "strconv.ErrRange", "internal/strconv.uint64pow10", "math/bits.deBruijn32tab", "math/bits.deBruijn64tab"], apart := false, laid := [("math/bits.deBruijn32tab", laid_math_bits_deBruijn32tab), ("math/bits.deBruijn64tab", laid_math_bits_deBruijn64tab), ("internal/strconv.uint64pow10", laid_internal_strconv_uint64pow10), ("unicode/utf8.acceptRanges", laid_unicode_utf8_acceptRanges), ("strconv.ErrRange", laid_strconv_ErrRange), ("strconv.ErrSyntax", laid_strconv_ErrSyntax), ("pub-paratext/pub/rscmarkdown.htmlEntities", laid_pub_paratext_pub_rscmarkdown_htmlEntities), ("unicode/utf8.first", laid_unicode_utf8_first)] }
def FnAutolinkSaid : Prop := fnAutolinkRow.holds Tryz.pinned (OpenSpec.ofChange fnAutolinkSpec)

/-- ITS FALSE NEIGHBOUR: 'it returns false'. Refute it at one input. -/
def fnAutolinkWrong : ChangeSpec := { name := "fnAutolink", fn := fun _ => fun
  | [d1, d2] => { results := [.lit (.bool false)], args := [d1, d2] }
  | _ => none }
def FnAutolinkWrongFalsely : Prop := fnAutolinkRow.holds Tryz.pinned (OpenSpec.ofChange fnAutolinkWrong)

/-- 'laws.FnEscaped': WHATEVER THE INPUT: true; the input reads as it did. -/
def fnEscapedSpec : ChangeSpec := { name := "fnEscaped", fn := fun _ => fun
  | [d] => { results := [.lit (.bool true)], args := [d] }
  | _ => none }
def fnEscapedRow : OpenClaim := { program := "ytdnlfdppjfjncaagreatdoor", sum := "8c4e3587873fd93997c757213591dbbfe23156804ba9228dd626bc4f0ba8e3da", func := "pub-paratext/laws.FnEscaped", spec := "fnEscaped", inPlace := ["internal/abi.NoEscape", "internal/bytealg.IndexByteString", "internal/bytealg.MakeNoZero"], unfollowed := true, recurses := true, named := ["unicode/utf8.first", "unicode/utf8.acceptRanges", "pub-paratext/pub/rscmarkdown.htmlEntities", "strconv.ErrSyntax", "strconv.ErrRange", "internal/strconv.uint64pow10", "math/bits.deBruijn32tab", "math/bits.deBruijn64tab"], apart := false, laid := [("math/bits.deBruijn32tab", laid_math_bits_deBruijn32tab), ("math/bits.deBruijn64tab", laid_math_bits_deBruijn64tab), ("internal/strconv.uint64pow10", laid_internal_strconv_uint64pow10), ("unicode/utf8.acceptRanges", laid_unicode_utf8_acceptRanges), ("strconv.ErrRange", laid_strconv_ErrRange), ("strconv.ErrSyntax", laid_strconv_ErrSyntax), ("pub-paratext/pub/rscmarkdown.htmlEntities", laid_pub_paratext_pub_rscmarkdown_htmlEntities), ("unicode/utf8.first", laid_unicode_utf8_first)] }
def FnEscapedSaid : Prop := fnEscapedRow.holds Tryz.pinned (OpenSpec.ofChange fnEscapedSpec)

/-- ITS FALSE NEIGHBOUR: 'it returns false'. Refute it at one input. -/
def fnEscapedWrong : ChangeSpec := { name := "fnEscaped", fn := fun _ => fun
  | [d] => { results := [.lit (.bool false)], args := [d] }
  | _ => none }
def FnEscapedWrongFalsely : Prop := fnEscapedRow.holds Tryz.pinned (OpenSpec.ofChange fnEscapedWrong)

/-- 'laws.FnFence': WHATEVER THE INPUT: true; the input reads as it did. -/
def fnFenceSpec : ChangeSpec := { name := "fnFence", fn := fun _ => fun
  | [d1, d2] => { results := [.lit (.bool true)], args := [d1, d2] }
  | _ => none }
def fnFenceRow : OpenClaim := { program := "ytdnlfdppjfjncaagreatdoor", sum := "8c4e3587873fd93997c757213591dbbfe23156804ba9228dd626bc4f0ba8e3da", func := "pub-paratext/laws.FnFence", spec := "fnFence", inPlace := ["internal/bytealg.IndexByteString", "internal/abi.NoEscape", "internal/bytealg.MakeNoZero"], unfollowed := true, recurses := true, named := ["unicode/utf8.first", "unicode/utf8.acceptRanges", "pub-paratext/pub/rscmarkdown.htmlEntities", "strconv.ErrSyntax", "strconv.ErrRange", "internal/strconv.uint64pow10", "math/bits.deBruijn32tab", "math/bits.deBruijn64tab"], apart := false, laid := [("math/bits.deBruijn32tab", laid_math_bits_deBruijn32tab), ("math/bits.deBruijn64tab", laid_math_bits_deBruijn64tab), ("internal/strconv.uint64pow10", laid_internal_strconv_uint64pow10), ("unicode/utf8.acceptRanges", laid_unicode_utf8_acceptRanges), ("strconv.ErrRange", laid_strconv_ErrRange), ("strconv.ErrSyntax", laid_strconv_ErrSyntax), ("pub-paratext/pub/rscmarkdown.htmlEntities", laid_pub_paratext_pub_rscmarkdown_htmlEntities), ("unicode/utf8.first", laid_unicode_utf8_first)] }
def FnFenceSaid : Prop := fnFenceRow.holds Tryz.pinned (OpenSpec.ofChange fnFenceSpec)

/-- ITS FALSE NEIGHBOUR: 'it returns false'. Refute it at one input. -/
def fnFenceWrong : ChangeSpec := { name := "fnFence", fn := fun _ => fun
  | [d1, d2] => { results := [.lit (.bool false)], args := [d1, d2] }
  | _ => none }
def FnFenceWrongFalsely : Prop := fnFenceRow.holds Tryz.pinned (OpenSpec.ofChange fnFenceWrong)

/-- 'laws.FnImages': WHATEVER THE INPUT: true; the input reads as it did. -/
def fnImagesSpec : ChangeSpec := { name := "fnImages", fn := fun _ => fun
  | [d1, d2, d3] => { results := [.lit (.bool true)], args := [d1, d2, d3] }
  | _ => none }
def fnImagesRow : OpenClaim := { program := "ytdnlfdppjfjncaagreatdoor", sum := "8c4e3587873fd93997c757213591dbbfe23156804ba9228dd626bc4f0ba8e3da", func := "pub-paratext/laws.FnImages", spec := "fnImages", inPlace := ["internal/bytealg.IndexByteString", "internal/abi.NoEscape", "internal/bytealg.MakeNoZero"], unfollowed := true, recurses := true, named := ["unicode/utf8.first", "unicode/utf8.acceptRanges", "pub-paratext/pub/rscmarkdown.htmlEntities", "strconv.ErrSyntax", "strconv.ErrRange", "internal/strconv.uint64pow10", "math/bits.deBruijn32tab", "math/bits.deBruijn64tab"], apart := false, laid := [("math/bits.deBruijn32tab", laid_math_bits_deBruijn32tab), ("math/bits.deBruijn64tab", laid_math_bits_deBruijn64tab), ("internal/strconv.uint64pow10", laid_internal_strconv_uint64pow10), ("unicode/utf8.acceptRanges", laid_unicode_utf8_acceptRanges), ("strconv.ErrRange", laid_strconv_ErrRange), ("strconv.ErrSyntax", laid_strconv_ErrSyntax), ("pub-paratext/pub/rscmarkdown.htmlEntities", laid_pub_paratext_pub_rscmarkdown_htmlEntities), ("unicode/utf8.first", laid_unicode_utf8_first)] }
def FnImagesSaid : Prop := fnImagesRow.holds Tryz.pinned (OpenSpec.ofChange fnImagesSpec)

/-- ITS FALSE NEIGHBOUR: 'it returns false'. Refute it at one input. -/
def fnImagesWrong : ChangeSpec := { name := "fnImages", fn := fun _ => fun
  | [d1, d2, d3] => { results := [.lit (.bool false)], args := [d1, d2, d3] }
  | _ => none }
def FnImagesWrongFalsely : Prop := fnImagesRow.holds Tryz.pinned (OpenSpec.ofChange fnImagesWrong)

/-- 'laws.FnLazy': WHATEVER THE INPUT: true; the input reads as it did. -/
def fnLazySpec : ChangeSpec := { name := "fnLazy", fn := fun _ => fun
  | [d1, d2, d3] => { results := [.lit (.bool true)], args := [d1, d2, d3] }
  | _ => none }
def fnLazyRow : OpenClaim := { program := "ytdnlfdppjfjncaagreatdoor", sum := "8c4e3587873fd93997c757213591dbbfe23156804ba9228dd626bc4f0ba8e3da", func := "pub-paratext/laws.FnLazy", spec := "fnLazy", inPlace := ["internal/bytealg.IndexByteString", "internal/abi.NoEscape", "internal/bytealg.MakeNoZero"], unfollowed := true, recurses := true, named := ["unicode/utf8.first", "unicode/utf8.acceptRanges", "pub-paratext/pub/rscmarkdown.htmlEntities", "strconv.ErrSyntax", "strconv.ErrRange", "internal/strconv.uint64pow10", "math/bits.deBruijn32tab", "math/bits.deBruijn64tab"], apart := false, laid := [("math/bits.deBruijn32tab", laid_math_bits_deBruijn32tab), ("math/bits.deBruijn64tab", laid_math_bits_deBruijn64tab), ("internal/strconv.uint64pow10", laid_internal_strconv_uint64pow10), ("unicode/utf8.acceptRanges", laid_unicode_utf8_acceptRanges), ("strconv.ErrRange", laid_strconv_ErrRange), ("strconv.ErrSyntax", laid_strconv_ErrSyntax), ("pub-paratext/pub/rscmarkdown.htmlEntities", laid_pub_paratext_pub_rscmarkdown_htmlEntities), ("unicode/utf8.first", laid_unicode_utf8_first)] }
def FnLazySaid : Prop := fnLazyRow.holds Tryz.pinned (OpenSpec.ofChange fnLazySpec)

/-- ITS FALSE NEIGHBOUR: 'it returns false'. Refute it at one input. -/
def fnLazyWrong : ChangeSpec := { name := "fnLazy", fn := fun _ => fun
  | [d1, d2, d3] => { results := [.lit (.bool false)], args := [d1, d2, d3] }
  | _ => none }
def FnLazyWrongFalsely : Prop := fnLazyRow.holds Tryz.pinned (OpenSpec.ofChange fnLazyWrong)

/-- 'laws.FnLiteralLines': WHATEVER THE INPUT: true; the input reads as it did. -/
def fnLiteralLinesSpec : ChangeSpec := { name := "fnLiteralLines", fn := fun _ => fun
  | [d] => { results := [.lit (.bool true)], args := [d] }
  | _ => none }
def fnLiteralLinesRow : OpenClaim := { program := "ytdnlfdppjfjncaagreatdoor", sum := "8c4e3587873fd93997c757213591dbbfe23156804ba9228dd626bc4f0ba8e3da", func := "pub-paratext/laws.FnLiteralLines", spec := "fnLiteralLines", inPlace := ["internal/bytealg.IndexByteString", "internal/abi.NoEscape", "internal/bytealg.MakeNoZero"], unfollowed := true, recurses := true, named := ["unicode/utf8.first", "unicode/utf8.acceptRanges", "pub-paratext/pub/rscmarkdown.htmlEntities", "strconv.ErrSyntax", "strconv.ErrRange", "internal/strconv.uint64pow10", "math/bits.deBruijn32tab", "math/bits.deBruijn64tab"], apart := false, laid := [("math/bits.deBruijn32tab", laid_math_bits_deBruijn32tab), ("math/bits.deBruijn64tab", laid_math_bits_deBruijn64tab), ("internal/strconv.uint64pow10", laid_internal_strconv_uint64pow10), ("unicode/utf8.acceptRanges", laid_unicode_utf8_acceptRanges), ("strconv.ErrRange", laid_strconv_ErrRange), ("strconv.ErrSyntax", laid_strconv_ErrSyntax), ("pub-paratext/pub/rscmarkdown.htmlEntities", laid_pub_paratext_pub_rscmarkdown_htmlEntities), ("unicode/utf8.first", laid_unicode_utf8_first)] }
def FnLiteralLinesSaid : Prop := fnLiteralLinesRow.holds Tryz.pinned (OpenSpec.ofChange fnLiteralLinesSpec)

/-- ITS FALSE NEIGHBOUR: 'it returns false'. Refute it at one input. -/
def fnLiteralLinesWrong : ChangeSpec := { name := "fnLiteralLines", fn := fun _ => fun
  | [d] => { results := [.lit (.bool false)], args := [d] }
  | _ => none }
def FnLiteralLinesWrongFalsely : Prop := fnLiteralLinesRow.holds Tryz.pinned (OpenSpec.ofChange fnLiteralLinesWrong)

/-- 'laws.FnOpenTag': WHATEVER THE INPUT: true; the input reads as it did. -/
def fnOpenTagSpec : ChangeSpec := { name := "fnOpenTag", fn := fun _ => fun
  | [d1, d2, d3] => { results := [.lit (.bool true)], args := [d1, d2, d3] }
  | _ => none }
def fnOpenTagRow : OpenClaim := { program := "ytdnlfdppjfjncaagreatdoor", sum := "8c4e3587873fd93997c757213591dbbfe23156804ba9228dd626bc4f0ba8e3da", func := "pub-paratext/laws.FnOpenTag", spec := "fnOpenTag", inPlace := ["internal/bytealg.IndexByteString", "internal/abi.NoEscape", "internal/bytealg.MakeNoZero"], unfollowed := true, recurses := true, named := ["unicode/utf8.first", "unicode/utf8.acceptRanges", "pub-paratext/pub/rscmarkdown.htmlEntities", "strconv.ErrSyntax", "strconv.ErrRange", "internal/strconv.uint64pow10", "math/bits.deBruijn32tab", "math/bits.deBruijn64tab"], apart := false, laid := [("math/bits.deBruijn32tab", laid_math_bits_deBruijn32tab), ("math/bits.deBruijn64tab", laid_math_bits_deBruijn64tab), ("internal/strconv.uint64pow10", laid_internal_strconv_uint64pow10), ("unicode/utf8.acceptRanges", laid_unicode_utf8_acceptRanges), ("strconv.ErrRange", laid_strconv_ErrRange), ("strconv.ErrSyntax", laid_strconv_ErrSyntax), ("pub-paratext/pub/rscmarkdown.htmlEntities", laid_pub_paratext_pub_rscmarkdown_htmlEntities), ("unicode/utf8.first", laid_unicode_utf8_first)] }
def FnOpenTagSaid : Prop := fnOpenTagRow.holds Tryz.pinned (OpenSpec.ofChange fnOpenTagSpec)

/-- ITS FALSE NEIGHBOUR: 'it returns false'. Refute it at one input. -/
def fnOpenTagWrong : ChangeSpec := { name := "fnOpenTag", fn := fun _ => fun
  | [d1, d2, d3] => { results := [.lit (.bool false)], args := [d1, d2, d3] }
  | _ => none }
def FnOpenTagWrongFalsely : Prop := fnOpenTagRow.holds Tryz.pinned (OpenSpec.ofChange fnOpenTagWrong)

/-- 'laws.FnOutdent': WHATEVER THE INPUT: true; the input reads as it did. -/
def fnOutdentSpec : ChangeSpec := { name := "fnOutdent", fn := fun _ => fun
  | [d1, d2, d3] => { results := [.lit (.bool true)], args := [d1, d2, d3] }
  | _ => none }
def fnOutdentRow : OpenClaim := { program := "ytdnlfdppjfjncaagreatdoor", sum := "8c4e3587873fd93997c757213591dbbfe23156804ba9228dd626bc4f0ba8e3da", func := "pub-paratext/laws.FnOutdent", spec := "fnOutdent", inPlace := ["internal/bytealg.IndexByteString", "internal/abi.NoEscape", "internal/bytealg.MakeNoZero"], unfollowed := true, recurses := true, named := ["unicode/utf8.first", "unicode/utf8.acceptRanges", "pub-paratext/pub/rscmarkdown.htmlEntities", "strconv.ErrSyntax", "strconv.ErrRange", "internal/strconv.uint64pow10", "math/bits.deBruijn32tab", "math/bits.deBruijn64tab"], apart := false, laid := [("math/bits.deBruijn32tab", laid_math_bits_deBruijn32tab), ("math/bits.deBruijn64tab", laid_math_bits_deBruijn64tab), ("internal/strconv.uint64pow10", laid_internal_strconv_uint64pow10), ("unicode/utf8.acceptRanges", laid_unicode_utf8_acceptRanges), ("strconv.ErrRange", laid_strconv_ErrRange), ("strconv.ErrSyntax", laid_strconv_ErrSyntax), ("pub-paratext/pub/rscmarkdown.htmlEntities", laid_pub_paratext_pub_rscmarkdown_htmlEntities), ("unicode/utf8.first", laid_unicode_utf8_first)] }
def FnOutdentSaid : Prop := fnOutdentRow.holds Tryz.pinned (OpenSpec.ofChange fnOutdentSpec)

/-- ITS FALSE NEIGHBOUR: 'it returns false'. Refute it at one input. -/
def fnOutdentWrong : ChangeSpec := { name := "fnOutdent", fn := fun _ => fun
  | [d1, d2, d3] => { results := [.lit (.bool false)], args := [d1, d2, d3] }
  | _ => none }
def FnOutdentWrongFalsely : Prop := fnOutdentRow.holds Tryz.pinned (OpenSpec.ofChange fnOutdentWrong)

/-- 'laws.FnSeven': WHATEVER THE INPUT: true; the input reads as it did. -/
def fnSevenSpec : ChangeSpec := { name := "fnSeven", fn := fun _ => fun
  | [d1, d2] => { results := [.lit (.bool true)], args := [d1, d2] }
  | _ => none }
def fnSevenRow : OpenClaim := { program := "ytdnlfdppjfjncaagreatdoor", sum := "8c4e3587873fd93997c757213591dbbfe23156804ba9228dd626bc4f0ba8e3da", func := "pub-paratext/laws.FnSeven", spec := "fnSeven", inPlace := ["internal/bytealg.IndexByteString", "internal/abi.NoEscape", "internal/bytealg.MakeNoZero"], unfollowed := true, recurses := true, named := ["unicode/utf8.first", "unicode/utf8.acceptRanges", "pub-paratext/pub/rscmarkdown.htmlEntities", "strconv.ErrSyntax", "strconv.ErrRange", "internal/strconv.uint64pow10", "math/bits.deBruijn32tab", "math/bits.deBruijn64tab"], apart := false, laid := [("math/bits.deBruijn32tab", laid_math_bits_deBruijn32tab), ("math/bits.deBruijn64tab", laid_math_bits_deBruijn64tab), ("internal/strconv.uint64pow10", laid_internal_strconv_uint64pow10), ("unicode/utf8.acceptRanges", laid_unicode_utf8_acceptRanges), ("strconv.ErrRange", laid_strconv_ErrRange), ("strconv.ErrSyntax", laid_strconv_ErrSyntax), ("pub-paratext/pub/rscmarkdown.htmlEntities", laid_pub_paratext_pub_rscmarkdown_htmlEntities), ("unicode/utf8.first", laid_unicode_utf8_first)] }
def FnSevenSaid : Prop := fnSevenRow.holds Tryz.pinned (OpenSpec.ofChange fnSevenSpec)

/-- ITS FALSE NEIGHBOUR: 'it returns false'. Refute it at one input. -/
def fnSevenWrong : ChangeSpec := { name := "fnSeven", fn := fun _ => fun
  | [d1, d2] => { results := [.lit (.bool false)], args := [d1, d2] }
  | _ => none }
def FnSevenWrongFalsely : Prop := fnSevenRow.holds Tryz.pinned (OpenSpec.ofChange fnSevenWrong)

/-- 'laws.FnSmartQuotes': WHATEVER THE INPUT: true; the input reads as it did. -/
def fnSmartQuotesSpec : ChangeSpec := { name := "fnSmartQuotes", fn := fun _ => fun
  | [d1, d2, d3, d4] => { results := [.lit (.bool true)], args := [d1, d2, d3, d4] }
  | _ => none }
def fnSmartQuotesRow : OpenClaim := { program := "ytdnlfdppjfjncaagreatdoor", sum := "8c4e3587873fd93997c757213591dbbfe23156804ba9228dd626bc4f0ba8e3da", func := "pub-paratext/laws.FnSmartQuotes", spec := "fnSmartQuotes", inPlace := ["internal/bytealg.IndexByteString", "internal/abi.NoEscape", "internal/bytealg.MakeNoZero"], unfollowed := true, recurses := true, named := ["unicode/utf8.first", "unicode/utf8.acceptRanges", "pub-paratext/pub/rscmarkdown.htmlEntities", "strconv.ErrSyntax", "strconv.ErrRange", "internal/strconv.uint64pow10", "math/bits.deBruijn32tab", "math/bits.deBruijn64tab"], apart := false, laid := [("math/bits.deBruijn32tab", laid_math_bits_deBruijn32tab), ("math/bits.deBruijn64tab", laid_math_bits_deBruijn64tab), ("internal/strconv.uint64pow10", laid_internal_strconv_uint64pow10), ("unicode/utf8.acceptRanges", laid_unicode_utf8_acceptRanges), ("strconv.ErrRange", laid_strconv_ErrRange), ("strconv.ErrSyntax", laid_strconv_ErrSyntax), ("pub-paratext/pub/rscmarkdown.htmlEntities", laid_pub_paratext_pub_rscmarkdown_htmlEntities), ("unicode/utf8.first", laid_unicode_utf8_first)] }
def FnSmartQuotesSaid : Prop := fnSmartQuotesRow.holds Tryz.pinned (OpenSpec.ofChange fnSmartQuotesSpec)

/-- ITS FALSE NEIGHBOUR: 'it returns false'. Refute it at one input. -/
def fnSmartQuotesWrong : ChangeSpec := { name := "fnSmartQuotes", fn := fun _ => fun
  | [d1, d2, d3, d4] => { results := [.lit (.bool false)], args := [d1, d2, d3, d4] }
  | _ => none }
def FnSmartQuotesWrongFalsely : Prop := fnSmartQuotesRow.holds Tryz.pinned (OpenSpec.ofChange fnSmartQuotesWrong)

/-- 'laws.FnStruck': WHATEVER THE INPUT: true; the input reads as it did. -/
def fnStruckSpec : ChangeSpec := { name := "fnStruck", fn := fun _ => fun
  | [d1, d2, d3, d4] => { results := [.lit (.bool true)], args := [d1, d2, d3, d4] }
  | _ => none }
def fnStruckRow : OpenClaim := { program := "ytdnlfdppjfjncaagreatdoor", sum := "8c4e3587873fd93997c757213591dbbfe23156804ba9228dd626bc4f0ba8e3da", func := "pub-paratext/laws.FnStruck", spec := "fnStruck", inPlace := ["internal/bytealg.IndexByteString", "internal/abi.NoEscape", "internal/bytealg.MakeNoZero"], unfollowed := true, recurses := true, named := ["unicode/utf8.first", "unicode/utf8.acceptRanges", "pub-paratext/pub/rscmarkdown.htmlEntities", "strconv.ErrSyntax", "strconv.ErrRange", "internal/strconv.uint64pow10", "math/bits.deBruijn32tab", "math/bits.deBruijn64tab"], apart := false, laid := [("math/bits.deBruijn32tab", laid_math_bits_deBruijn32tab), ("math/bits.deBruijn64tab", laid_math_bits_deBruijn64tab), ("internal/strconv.uint64pow10", laid_internal_strconv_uint64pow10), ("unicode/utf8.acceptRanges", laid_unicode_utf8_acceptRanges), ("strconv.ErrRange", laid_strconv_ErrRange), ("strconv.ErrSyntax", laid_strconv_ErrSyntax), ("pub-paratext/pub/rscmarkdown.htmlEntities", laid_pub_paratext_pub_rscmarkdown_htmlEntities), ("unicode/utf8.first", laid_unicode_utf8_first)] }
def FnStruckSaid : Prop := fnStruckRow.holds Tryz.pinned (OpenSpec.ofChange fnStruckSpec)

/-- ITS FALSE NEIGHBOUR: 'it returns false'. Refute it at one input. -/
def fnStruckWrong : ChangeSpec := { name := "fnStruck", fn := fun _ => fun
  | [d1, d2, d3, d4] => { results := [.lit (.bool false)], args := [d1, d2, d3, d4] }
  | _ => none }
def FnStruckWrongFalsely : Prop := fnStruckRow.holds Tryz.pinned (OpenSpec.ofChange fnStruckWrong)

/-- 'laws.FnUnclosed': WHATEVER THE INPUT: true; the input reads as it did. -/
def fnUnclosedSpec : ChangeSpec := { name := "fnUnclosed", fn := fun _ => fun
  | [d] => { results := [.lit (.bool true)], args := [d] }
  | _ => none }
def fnUnclosedRow : OpenClaim := { program := "ytdnlfdppjfjncaagreatdoor", sum := "8c4e3587873fd93997c757213591dbbfe23156804ba9228dd626bc4f0ba8e3da", func := "pub-paratext/laws.FnUnclosed", spec := "fnUnclosed", inPlace := ["internal/bytealg.IndexByteString", "internal/abi.NoEscape", "internal/bytealg.MakeNoZero"], unfollowed := true, recurses := true, named := ["unicode/utf8.first", "unicode/utf8.acceptRanges", "pub-paratext/pub/rscmarkdown.htmlEntities", "strconv.ErrSyntax", "strconv.ErrRange", "internal/strconv.uint64pow10", "math/bits.deBruijn32tab", "math/bits.deBruijn64tab"], apart := false, laid := [("math/bits.deBruijn32tab", laid_math_bits_deBruijn32tab), ("math/bits.deBruijn64tab", laid_math_bits_deBruijn64tab), ("internal/strconv.uint64pow10", laid_internal_strconv_uint64pow10), ("unicode/utf8.acceptRanges", laid_unicode_utf8_acceptRanges), ("strconv.ErrRange", laid_strconv_ErrRange), ("strconv.ErrSyntax", laid_strconv_ErrSyntax), ("pub-paratext/pub/rscmarkdown.htmlEntities", laid_pub_paratext_pub_rscmarkdown_htmlEntities), ("unicode/utf8.first", laid_unicode_utf8_first)] }
def FnUnclosedSaid : Prop := fnUnclosedRow.holds Tryz.pinned (OpenSpec.ofChange fnUnclosedSpec)

/-- ITS FALSE NEIGHBOUR: 'it returns false'. Refute it at one input. -/
def fnUnclosedWrong : ChangeSpec := { name := "fnUnclosed", fn := fun _ => fun
  | [d] => { results := [.lit (.bool false)], args := [d] }
  | _ => none }
def FnUnclosedWrongFalsely : Prop := fnUnclosedRow.holds Tryz.pinned (OpenSpec.ofChange fnUnclosedWrong)

/- THE SECOND FORM. 'bulk': how many values and letters a reading holds, each counted each time it is reached (what is shared counts as often as it is met; a slice's spare places count too). A statement '..UptoSaid' is the law's where the arguments, and the package variables that the reading takes, are together of bulk at most 1048576: NARROWER than '..Said'. Prove '..Said' where nothing that the law and all that it calls make is longer than what came in: it says more and counts as full. Else prove '..UptoSaid'. A law counts once. -/
mutual
def uptoBulk {H : Type} : DataW H → Nat
  | .lit (.string bytes) => bytes.length + 1
  | .lit _ => 1
  | .nil => 1
  | .ptr d => uptoBulk d + 1
  | .slice elems spare => uptoBulkAll elems + uptoBulkAll spare + 1
  | .agg parts => uptoBulkAll parts + 1
  | .iface _ d => uptoBulk d + 1
  | .map entries => uptoBulkEntries entries + 1
  | .held _ => 1
def uptoBulkAll {H : Type} : List (DataW H) → Nat
  | [] => 0
  | d :: r => uptoBulk d + uptoBulkAll r
def uptoBulkEntries {H : Type} : List (Lit × DataW H) → Nat
  | [] => 0
  | x :: r => uptoBulkEntry x + uptoBulkEntries r
def uptoBulkEntry {H : Type} : Lit × DataW H → Nat
  | (.string bytes, d) => bytes.length + uptoBulk d + 1
  | (_, d) => uptoBulk d + 1
 end
def uptoSmall : (H : Type) → List (DataW H) → Bool := fun _ ds => decide (uptoBulkAll ds ≤ 1048576)
def OpenSpec.upto (s : _root_.Go.ChangeSpec) : _root_.Go.OpenSpec := { _root_.Go.OpenSpec.ofChange s with cond := some uptoSmall }

/-- 'laws.FnAutolink', WHERE WHAT IT READS IS OF BULK AT MOST 1048576: true; the input reads as it did. -/
def fnAutolinkUptoRow : OpenClaim := { program := "ytdnlfdppjfjncaagreatdoor", sum := "8c4e3587873fd93997c757213591dbbfe23156804ba9228dd626bc4f0ba8e3da", func := "pub-paratext/laws.FnAutolink", spec := "fnAutolink", inPlace := ["internal/bytealg.IndexByteString", "internal/abi.NoEscape", "internal/bytealg.MakeNoZero"], unfollowed := true, recurses := true, named := ["unicode/utf8.first", "unicode/utf8.acceptRanges", "pub-paratext/pub/rscmarkdown.htmlEntities", "strconv.ErrSyntax", "strconv.ErrRange", "internal/strconv.uint64pow10", "math/bits.deBruijn32tab", "math/bits.deBruijn64tab"], apart := false, laid := [("math/bits.deBruijn32tab", laid_math_bits_deBruijn32tab), ("math/bits.deBruijn64tab", laid_math_bits_deBruijn64tab), ("internal/strconv.uint64pow10", laid_internal_strconv_uint64pow10), ("unicode/utf8.acceptRanges", laid_unicode_utf8_acceptRanges), ("strconv.ErrRange", laid_strconv_ErrRange), ("strconv.ErrSyntax", laid_strconv_ErrSyntax), ("pub-paratext/pub/rscmarkdown.htmlEntities", laid_pub_paratext_pub_rscmarkdown_htmlEntities), ("unicode/utf8.first", laid_unicode_utf8_first)], narrowed := true }
def FnAutolinkUptoSaid : Prop := fnAutolinkUptoRow.holds Tryz.pinned (OpenSpec.upto fnAutolinkSpec)

/-- 'laws.FnEscaped', WHERE WHAT IT READS IS OF BULK AT MOST 1048576: true; the input reads as it did. -/
def fnEscapedUptoRow : OpenClaim := { program := "ytdnlfdppjfjncaagreatdoor", sum := "8c4e3587873fd93997c757213591dbbfe23156804ba9228dd626bc4f0ba8e3da", func := "pub-paratext/laws.FnEscaped", spec := "fnEscaped", inPlace := ["internal/abi.NoEscape", "internal/bytealg.IndexByteString", "internal/bytealg.MakeNoZero"], unfollowed := true, recurses := true, named := ["unicode/utf8.first", "unicode/utf8.acceptRanges", "pub-paratext/pub/rscmarkdown.htmlEntities", "strconv.ErrSyntax", "strconv.ErrRange", "internal/strconv.uint64pow10", "math/bits.deBruijn32tab", "math/bits.deBruijn64tab"], apart := false, laid := [("math/bits.deBruijn32tab", laid_math_bits_deBruijn32tab), ("math/bits.deBruijn64tab", laid_math_bits_deBruijn64tab), ("internal/strconv.uint64pow10", laid_internal_strconv_uint64pow10), ("unicode/utf8.acceptRanges", laid_unicode_utf8_acceptRanges), ("strconv.ErrRange", laid_strconv_ErrRange), ("strconv.ErrSyntax", laid_strconv_ErrSyntax), ("pub-paratext/pub/rscmarkdown.htmlEntities", laid_pub_paratext_pub_rscmarkdown_htmlEntities), ("unicode/utf8.first", laid_unicode_utf8_first)], narrowed := true }
def FnEscapedUptoSaid : Prop := fnEscapedUptoRow.holds Tryz.pinned (OpenSpec.upto fnEscapedSpec)

/-- 'laws.FnFence', WHERE WHAT IT READS IS OF BULK AT MOST 1048576: true; the input reads as it did. -/
def fnFenceUptoRow : OpenClaim := { program := "ytdnlfdppjfjncaagreatdoor", sum := "8c4e3587873fd93997c757213591dbbfe23156804ba9228dd626bc4f0ba8e3da", func := "pub-paratext/laws.FnFence", spec := "fnFence", inPlace := ["internal/bytealg.IndexByteString", "internal/abi.NoEscape", "internal/bytealg.MakeNoZero"], unfollowed := true, recurses := true, named := ["unicode/utf8.first", "unicode/utf8.acceptRanges", "pub-paratext/pub/rscmarkdown.htmlEntities", "strconv.ErrSyntax", "strconv.ErrRange", "internal/strconv.uint64pow10", "math/bits.deBruijn32tab", "math/bits.deBruijn64tab"], apart := false, laid := [("math/bits.deBruijn32tab", laid_math_bits_deBruijn32tab), ("math/bits.deBruijn64tab", laid_math_bits_deBruijn64tab), ("internal/strconv.uint64pow10", laid_internal_strconv_uint64pow10), ("unicode/utf8.acceptRanges", laid_unicode_utf8_acceptRanges), ("strconv.ErrRange", laid_strconv_ErrRange), ("strconv.ErrSyntax", laid_strconv_ErrSyntax), ("pub-paratext/pub/rscmarkdown.htmlEntities", laid_pub_paratext_pub_rscmarkdown_htmlEntities), ("unicode/utf8.first", laid_unicode_utf8_first)], narrowed := true }
def FnFenceUptoSaid : Prop := fnFenceUptoRow.holds Tryz.pinned (OpenSpec.upto fnFenceSpec)

/-- 'laws.FnImages', WHERE WHAT IT READS IS OF BULK AT MOST 1048576: true; the input reads as it did. -/
def fnImagesUptoRow : OpenClaim := { program := "ytdnlfdppjfjncaagreatdoor", sum := "8c4e3587873fd93997c757213591dbbfe23156804ba9228dd626bc4f0ba8e3da", func := "pub-paratext/laws.FnImages", spec := "fnImages", inPlace := ["internal/bytealg.IndexByteString", "internal/abi.NoEscape", "internal/bytealg.MakeNoZero"], unfollowed := true, recurses := true, named := ["unicode/utf8.first", "unicode/utf8.acceptRanges", "pub-paratext/pub/rscmarkdown.htmlEntities", "strconv.ErrSyntax", "strconv.ErrRange", "internal/strconv.uint64pow10", "math/bits.deBruijn32tab", "math/bits.deBruijn64tab"], apart := false, laid := [("math/bits.deBruijn32tab", laid_math_bits_deBruijn32tab), ("math/bits.deBruijn64tab", laid_math_bits_deBruijn64tab), ("internal/strconv.uint64pow10", laid_internal_strconv_uint64pow10), ("unicode/utf8.acceptRanges", laid_unicode_utf8_acceptRanges), ("strconv.ErrRange", laid_strconv_ErrRange), ("strconv.ErrSyntax", laid_strconv_ErrSyntax), ("pub-paratext/pub/rscmarkdown.htmlEntities", laid_pub_paratext_pub_rscmarkdown_htmlEntities), ("unicode/utf8.first", laid_unicode_utf8_first)], narrowed := true }
def FnImagesUptoSaid : Prop := fnImagesUptoRow.holds Tryz.pinned (OpenSpec.upto fnImagesSpec)

/-- 'laws.FnLazy', WHERE WHAT IT READS IS OF BULK AT MOST 1048576: true; the input reads as it did. -/
def fnLazyUptoRow : OpenClaim := { program := "ytdnlfdppjfjncaagreatdoor", sum := "8c4e3587873fd93997c757213591dbbfe23156804ba9228dd626bc4f0ba8e3da", func := "pub-paratext/laws.FnLazy", spec := "fnLazy", inPlace := ["internal/bytealg.IndexByteString", "internal/abi.NoEscape", "internal/bytealg.MakeNoZero"], unfollowed := true, recurses := true, named := ["unicode/utf8.first", "unicode/utf8.acceptRanges", "pub-paratext/pub/rscmarkdown.htmlEntities", "strconv.ErrSyntax", "strconv.ErrRange", "internal/strconv.uint64pow10", "math/bits.deBruijn32tab", "math/bits.deBruijn64tab"], apart := false, laid := [("math/bits.deBruijn32tab", laid_math_bits_deBruijn32tab), ("math/bits.deBruijn64tab", laid_math_bits_deBruijn64tab), ("internal/strconv.uint64pow10", laid_internal_strconv_uint64pow10), ("unicode/utf8.acceptRanges", laid_unicode_utf8_acceptRanges), ("strconv.ErrRange", laid_strconv_ErrRange), ("strconv.ErrSyntax", laid_strconv_ErrSyntax), ("pub-paratext/pub/rscmarkdown.htmlEntities", laid_pub_paratext_pub_rscmarkdown_htmlEntities), ("unicode/utf8.first", laid_unicode_utf8_first)], narrowed := true }
def FnLazyUptoSaid : Prop := fnLazyUptoRow.holds Tryz.pinned (OpenSpec.upto fnLazySpec)

/-- 'laws.FnLiteralLines', WHERE WHAT IT READS IS OF BULK AT MOST 1048576: true; the input reads as it did. -/
def fnLiteralLinesUptoRow : OpenClaim := { program := "ytdnlfdppjfjncaagreatdoor", sum := "8c4e3587873fd93997c757213591dbbfe23156804ba9228dd626bc4f0ba8e3da", func := "pub-paratext/laws.FnLiteralLines", spec := "fnLiteralLines", inPlace := ["internal/bytealg.IndexByteString", "internal/abi.NoEscape", "internal/bytealg.MakeNoZero"], unfollowed := true, recurses := true, named := ["unicode/utf8.first", "unicode/utf8.acceptRanges", "pub-paratext/pub/rscmarkdown.htmlEntities", "strconv.ErrSyntax", "strconv.ErrRange", "internal/strconv.uint64pow10", "math/bits.deBruijn32tab", "math/bits.deBruijn64tab"], apart := false, laid := [("math/bits.deBruijn32tab", laid_math_bits_deBruijn32tab), ("math/bits.deBruijn64tab", laid_math_bits_deBruijn64tab), ("internal/strconv.uint64pow10", laid_internal_strconv_uint64pow10), ("unicode/utf8.acceptRanges", laid_unicode_utf8_acceptRanges), ("strconv.ErrRange", laid_strconv_ErrRange), ("strconv.ErrSyntax", laid_strconv_ErrSyntax), ("pub-paratext/pub/rscmarkdown.htmlEntities", laid_pub_paratext_pub_rscmarkdown_htmlEntities), ("unicode/utf8.first", laid_unicode_utf8_first)], narrowed := true }
def FnLiteralLinesUptoSaid : Prop := fnLiteralLinesUptoRow.holds Tryz.pinned (OpenSpec.upto fnLiteralLinesSpec)

/-- 'laws.FnOpenTag', WHERE WHAT IT READS IS OF BULK AT MOST 1048576: true; the input reads as it did. -/
def fnOpenTagUptoRow : OpenClaim := { program := "ytdnlfdppjfjncaagreatdoor", sum := "8c4e3587873fd93997c757213591dbbfe23156804ba9228dd626bc4f0ba8e3da", func := "pub-paratext/laws.FnOpenTag", spec := "fnOpenTag", inPlace := ["internal/bytealg.IndexByteString", "internal/abi.NoEscape", "internal/bytealg.MakeNoZero"], unfollowed := true, recurses := true, named := ["unicode/utf8.first", "unicode/utf8.acceptRanges", "pub-paratext/pub/rscmarkdown.htmlEntities", "strconv.ErrSyntax", "strconv.ErrRange", "internal/strconv.uint64pow10", "math/bits.deBruijn32tab", "math/bits.deBruijn64tab"], apart := false, laid := [("math/bits.deBruijn32tab", laid_math_bits_deBruijn32tab), ("math/bits.deBruijn64tab", laid_math_bits_deBruijn64tab), ("internal/strconv.uint64pow10", laid_internal_strconv_uint64pow10), ("unicode/utf8.acceptRanges", laid_unicode_utf8_acceptRanges), ("strconv.ErrRange", laid_strconv_ErrRange), ("strconv.ErrSyntax", laid_strconv_ErrSyntax), ("pub-paratext/pub/rscmarkdown.htmlEntities", laid_pub_paratext_pub_rscmarkdown_htmlEntities), ("unicode/utf8.first", laid_unicode_utf8_first)], narrowed := true }
def FnOpenTagUptoSaid : Prop := fnOpenTagUptoRow.holds Tryz.pinned (OpenSpec.upto fnOpenTagSpec)

/-- 'laws.FnOutdent', WHERE WHAT IT READS IS OF BULK AT MOST 1048576: true; the input reads as it did. -/
def fnOutdentUptoRow : OpenClaim := { program := "ytdnlfdppjfjncaagreatdoor", sum := "8c4e3587873fd93997c757213591dbbfe23156804ba9228dd626bc4f0ba8e3da", func := "pub-paratext/laws.FnOutdent", spec := "fnOutdent", inPlace := ["internal/bytealg.IndexByteString", "internal/abi.NoEscape", "internal/bytealg.MakeNoZero"], unfollowed := true, recurses := true, named := ["unicode/utf8.first", "unicode/utf8.acceptRanges", "pub-paratext/pub/rscmarkdown.htmlEntities", "strconv.ErrSyntax", "strconv.ErrRange", "internal/strconv.uint64pow10", "math/bits.deBruijn32tab", "math/bits.deBruijn64tab"], apart := false, laid := [("math/bits.deBruijn32tab", laid_math_bits_deBruijn32tab), ("math/bits.deBruijn64tab", laid_math_bits_deBruijn64tab), ("internal/strconv.uint64pow10", laid_internal_strconv_uint64pow10), ("unicode/utf8.acceptRanges", laid_unicode_utf8_acceptRanges), ("strconv.ErrRange", laid_strconv_ErrRange), ("strconv.ErrSyntax", laid_strconv_ErrSyntax), ("pub-paratext/pub/rscmarkdown.htmlEntities", laid_pub_paratext_pub_rscmarkdown_htmlEntities), ("unicode/utf8.first", laid_unicode_utf8_first)], narrowed := true }
def FnOutdentUptoSaid : Prop := fnOutdentUptoRow.holds Tryz.pinned (OpenSpec.upto fnOutdentSpec)

/-- 'laws.FnSeven', WHERE WHAT IT READS IS OF BULK AT MOST 1048576: true; the input reads as it did. -/
def fnSevenUptoRow : OpenClaim := { program := "ytdnlfdppjfjncaagreatdoor", sum := "8c4e3587873fd93997c757213591dbbfe23156804ba9228dd626bc4f0ba8e3da", func := "pub-paratext/laws.FnSeven", spec := "fnSeven", inPlace := ["internal/bytealg.IndexByteString", "internal/abi.NoEscape", "internal/bytealg.MakeNoZero"], unfollowed := true, recurses := true, named := ["unicode/utf8.first", "unicode/utf8.acceptRanges", "pub-paratext/pub/rscmarkdown.htmlEntities", "strconv.ErrSyntax", "strconv.ErrRange", "internal/strconv.uint64pow10", "math/bits.deBruijn32tab", "math/bits.deBruijn64tab"], apart := false, laid := [("math/bits.deBruijn32tab", laid_math_bits_deBruijn32tab), ("math/bits.deBruijn64tab", laid_math_bits_deBruijn64tab), ("internal/strconv.uint64pow10", laid_internal_strconv_uint64pow10), ("unicode/utf8.acceptRanges", laid_unicode_utf8_acceptRanges), ("strconv.ErrRange", laid_strconv_ErrRange), ("strconv.ErrSyntax", laid_strconv_ErrSyntax), ("pub-paratext/pub/rscmarkdown.htmlEntities", laid_pub_paratext_pub_rscmarkdown_htmlEntities), ("unicode/utf8.first", laid_unicode_utf8_first)], narrowed := true }
def FnSevenUptoSaid : Prop := fnSevenUptoRow.holds Tryz.pinned (OpenSpec.upto fnSevenSpec)

/-- 'laws.FnSmartQuotes', WHERE WHAT IT READS IS OF BULK AT MOST 1048576: true; the input reads as it did. -/
def fnSmartQuotesUptoRow : OpenClaim := { program := "ytdnlfdppjfjncaagreatdoor", sum := "8c4e3587873fd93997c757213591dbbfe23156804ba9228dd626bc4f0ba8e3da", func := "pub-paratext/laws.FnSmartQuotes", spec := "fnSmartQuotes", inPlace := ["internal/bytealg.IndexByteString", "internal/abi.NoEscape", "internal/bytealg.MakeNoZero"], unfollowed := true, recurses := true, named := ["unicode/utf8.first", "unicode/utf8.acceptRanges", "pub-paratext/pub/rscmarkdown.htmlEntities", "strconv.ErrSyntax", "strconv.ErrRange", "internal/strconv.uint64pow10", "math/bits.deBruijn32tab", "math/bits.deBruijn64tab"], apart := false, laid := [("math/bits.deBruijn32tab", laid_math_bits_deBruijn32tab), ("math/bits.deBruijn64tab", laid_math_bits_deBruijn64tab), ("internal/strconv.uint64pow10", laid_internal_strconv_uint64pow10), ("unicode/utf8.acceptRanges", laid_unicode_utf8_acceptRanges), ("strconv.ErrRange", laid_strconv_ErrRange), ("strconv.ErrSyntax", laid_strconv_ErrSyntax), ("pub-paratext/pub/rscmarkdown.htmlEntities", laid_pub_paratext_pub_rscmarkdown_htmlEntities), ("unicode/utf8.first", laid_unicode_utf8_first)], narrowed := true }
def FnSmartQuotesUptoSaid : Prop := fnSmartQuotesUptoRow.holds Tryz.pinned (OpenSpec.upto fnSmartQuotesSpec)

/-- 'laws.FnStruck', WHERE WHAT IT READS IS OF BULK AT MOST 1048576: true; the input reads as it did. -/
def fnStruckUptoRow : OpenClaim := { program := "ytdnlfdppjfjncaagreatdoor", sum := "8c4e3587873fd93997c757213591dbbfe23156804ba9228dd626bc4f0ba8e3da", func := "pub-paratext/laws.FnStruck", spec := "fnStruck", inPlace := ["internal/bytealg.IndexByteString", "internal/abi.NoEscape", "internal/bytealg.MakeNoZero"], unfollowed := true, recurses := true, named := ["unicode/utf8.first", "unicode/utf8.acceptRanges", "pub-paratext/pub/rscmarkdown.htmlEntities", "strconv.ErrSyntax", "strconv.ErrRange", "internal/strconv.uint64pow10", "math/bits.deBruijn32tab", "math/bits.deBruijn64tab"], apart := false, laid := [("math/bits.deBruijn32tab", laid_math_bits_deBruijn32tab), ("math/bits.deBruijn64tab", laid_math_bits_deBruijn64tab), ("internal/strconv.uint64pow10", laid_internal_strconv_uint64pow10), ("unicode/utf8.acceptRanges", laid_unicode_utf8_acceptRanges), ("strconv.ErrRange", laid_strconv_ErrRange), ("strconv.ErrSyntax", laid_strconv_ErrSyntax), ("pub-paratext/pub/rscmarkdown.htmlEntities", laid_pub_paratext_pub_rscmarkdown_htmlEntities), ("unicode/utf8.first", laid_unicode_utf8_first)], narrowed := true }
def FnStruckUptoSaid : Prop := fnStruckUptoRow.holds Tryz.pinned (OpenSpec.upto fnStruckSpec)

/-- 'laws.FnUnclosed', WHERE WHAT IT READS IS OF BULK AT MOST 1048576: true; the input reads as it did. -/
def fnUnclosedUptoRow : OpenClaim := { program := "ytdnlfdppjfjncaagreatdoor", sum := "8c4e3587873fd93997c757213591dbbfe23156804ba9228dd626bc4f0ba8e3da", func := "pub-paratext/laws.FnUnclosed", spec := "fnUnclosed", inPlace := ["internal/bytealg.IndexByteString", "internal/abi.NoEscape", "internal/bytealg.MakeNoZero"], unfollowed := true, recurses := true, named := ["unicode/utf8.first", "unicode/utf8.acceptRanges", "pub-paratext/pub/rscmarkdown.htmlEntities", "strconv.ErrSyntax", "strconv.ErrRange", "internal/strconv.uint64pow10", "math/bits.deBruijn32tab", "math/bits.deBruijn64tab"], apart := false, laid := [("math/bits.deBruijn32tab", laid_math_bits_deBruijn32tab), ("math/bits.deBruijn64tab", laid_math_bits_deBruijn64tab), ("internal/strconv.uint64pow10", laid_internal_strconv_uint64pow10), ("unicode/utf8.acceptRanges", laid_unicode_utf8_acceptRanges), ("strconv.ErrRange", laid_strconv_ErrRange), ("strconv.ErrSyntax", laid_strconv_ErrSyntax), ("pub-paratext/pub/rscmarkdown.htmlEntities", laid_pub_paratext_pub_rscmarkdown_htmlEntities), ("unicode/utf8.first", laid_unicode_utf8_first)], narrowed := true }
def FnUnclosedUptoSaid : Prop := fnUnclosedUptoRow.holds Tryz.pinned (OpenSpec.upto fnUnclosedSpec)

end Rows
end Go.Proofs.YtdnlfdppjfjncaaGreatDoor
