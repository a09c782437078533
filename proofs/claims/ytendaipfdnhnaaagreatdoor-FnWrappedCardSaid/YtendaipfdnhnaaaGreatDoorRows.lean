/-
  NARROWER THAN 'FOR EVERY INPUT', by the rows' own cells (each row's printed sentence says how): FnFlat: laid · FnExactLines: laid · FnPlaced: laid · FnForeign: laid · FnWrapped: laid · FnSpread: laid · FnBuiltTwice: laid.
  DERIVED. THE GIVEN ROWS OF THIS SEAT. 7 by the template 'for every input the law returns true; each argument reads behind the call as it read before'; 0 by the template 'total and deterministic' (their statements: YtendaipfdnhnaaaGreatDoorTotals.lean).
  GIVEN WITH THE SEED: the statements are not yours to turn. If you find one false, say at which input.
  Laid BY PROGRAM, IN A SANDBOX (cutbox-rows.mjs): the forced cells as the released guide's own fill.sh prints them over the translation 1556b515eb7d57ee… (all of the seat's roots in one cut). By AI agents, Wed Nov 11 2026. No macro, syntax, notation, axiom, sorry.
-/
import Derived.Test.YtendaipfdnhnaaaGreatDoorChecked
import GoSem.PinnedTables
import GoSem.Claim
import GoSem.ClaimJoined
import GoSem.ClaimMapViews
import Derived.JoinedTies
import Derived.KernelRfl
namespace Go.Proofs.YtendaipfdnhnaaaGreatDoor
/- THE CELL 'sum', in the pinned program and in every row, IS THE sha256 OF THE DUMP (.gsa) THAT YtendaipfdnhnaaaGreatDoorProg.lean LOADS. Nothing in Lean hashes anything: it is a label: what it is worth is what the hold of that sum in a sandbox is worth. -/
noncomputable def Tryz.pinned : Pinned := { name := "ytendaipfdnhnaaagreatdoor", sum := "1556b515eb7d57eee73e4ad9cc0eaddd76a6dad6591a282834e2d055f6faa5c6", checked := Tryz.checked }
namespace Rows
def none {H : Type} : Left H := { results := [], args := [] }

/- WHAT THE LISTED PACKAGE-LEVEL VARIABLES READ AS WHEN THE CALL BEGINS. Each datum BY PROGRAM (the guide's laid-datum.mjs) off the statement by which the dump's own 'gosem.cut.vars' lays the variable. In a bare row this is a premise. The card (YtendaipfdnhnaaaGreatDoorCards.lean) ties it to the program's text. -/
def laid_math_bits_deBruijn32tab {H : Type} : DataW H := .agg [.lit (.int .u8 0), .lit (.int .u8 1), .lit (.int .u8 28), .lit (.int .u8 2), .lit (.int .u8 29), .lit (.int .u8 14), .lit (.int .u8 24), .lit (.int .u8 3), .lit (.int .u8 30), .lit (.int .u8 22), .lit (.int .u8 20), .lit (.int .u8 15), .lit (.int .u8 25), .lit (.int .u8 17), .lit (.int .u8 4), .lit (.int .u8 8), .lit (.int .u8 31), .lit (.int .u8 27), .lit (.int .u8 13), .lit (.int .u8 23), .lit (.int .u8 21), .lit (.int .u8 19), .lit (.int .u8 16), .lit (.int .u8 7), .lit (.int .u8 26), .lit (.int .u8 12), .lit (.int .u8 18), .lit (.int .u8 6), .lit (.int .u8 11), .lit (.int .u8 5), .lit (.int .u8 10), .lit (.int .u8 9)]
def laid_math_bits_deBruijn64tab {H : Type} : DataW H := .agg [.lit (.int .u8 0), .lit (.int .u8 1), .lit (.int .u8 56), .lit (.int .u8 2), .lit (.int .u8 57), .lit (.int .u8 49), .lit (.int .u8 28), .lit (.int .u8 3), .lit (.int .u8 61), .lit (.int .u8 58), .lit (.int .u8 42), .lit (.int .u8 50), .lit (.int .u8 38), .lit (.int .u8 29), .lit (.int .u8 17), .lit (.int .u8 4), .lit (.int .u8 62), .lit (.int .u8 47), .lit (.int .u8 59), .lit (.int .u8 36), .lit (.int .u8 45), .lit (.int .u8 43), .lit (.int .u8 51), .lit (.int .u8 22), .lit (.int .u8 53), .lit (.int .u8 39), .lit (.int .u8 33), .lit (.int .u8 30), .lit (.int .u8 24), .lit (.int .u8 18), .lit (.int .u8 12), .lit (.int .u8 5), .lit (.int .u8 63), .lit (.int .u8 55), .lit (.int .u8 48), .lit (.int .u8 27), .lit (.int .u8 60), .lit (.int .u8 41), .lit (.int .u8 37), .lit (.int .u8 16), .lit (.int .u8 46), .lit (.int .u8 35), .lit (.int .u8 44), .lit (.int .u8 21), .lit (.int .u8 52), .lit (.int .u8 32), .lit (.int .u8 23), .lit (.int .u8 11), .lit (.int .u8 54), .lit (.int .u8 26), .lit (.int .u8 40), .lit (.int .u8 15), .lit (.int .u8 34), .lit (.int .u8 20), .lit (.int .u8 31), .lit (.int .u8 10), .lit (.int .u8 25), .lit (.int .u8 14), .lit (.int .u8 19), .lit (.int .u8 9), .lit (.int .u8 13), .lit (.int .u8 8), .lit (.int .u8 7), .lit (.int .u8 6)]
def laid_internal_strconv_uint64pow10 {H : Type} : DataW H := .agg [.lit (.int .u64 1), .lit (.int .u64 10), .lit (.int .u64 100), .lit (.int .u64 1000), .lit (.int .u64 10000), .lit (.int .u64 100000), .lit (.int .u64 1000000), .lit (.int .u64 10000000), .lit (.int .u64 100000000), .lit (.int .u64 1000000000), .lit (.int .u64 10000000000), .lit (.int .u64 100000000000), .lit (.int .u64 1000000000000), .lit (.int .u64 10000000000000), .lit (.int .u64 100000000000000), .lit (.int .u64 1000000000000000), .lit (.int .u64 10000000000000000), .lit (.int .u64 100000000000000000), .lit (.int .u64 1000000000000000000), .lit (.int .u64 10000000000000000000)]
def laid_unicode_utf8_acceptRanges {H : Type} : DataW H := .agg [.agg [.lit (.int .u8 128), .lit (.int .u8 191)], .agg [.lit (.int .u8 160), .lit (.int .u8 191)], .agg [.lit (.int .u8 128), .lit (.int .u8 159)], .agg [.lit (.int .u8 144), .lit (.int .u8 191)], .agg [.lit (.int .u8 128), .lit (.int .u8 143)], .agg [.lit (.int .u8 0), .lit (.int .u8 0)], .agg [.lit (.int .u8 0), .lit (.int .u8 0)], .agg [.lit (.int .u8 0), .lit (.int .u8 0)], .agg [.lit (.int .u8 0), .lit (.int .u8 0)], .agg [.lit (.int .u8 0), .lit (.int .u8 0)], .agg [.lit (.int .u8 0), .lit (.int .u8 0)], .agg [.lit (.int .u8 0), .lit (.int .u8 0)], .agg [.lit (.int .u8 0), .lit (.int .u8 0)], .agg [.lit (.int .u8 0), .lit (.int .u8 0)], .agg [.lit (.int .u8 0), .lit (.int .u8 0)], .agg [.lit (.int .u8 0), .lit (.int .u8 0)]]
def laid_strconv_ErrRange {H : Type} : DataW H := .iface "*errors.errorString" (.ptr (.agg [.lit (.string [118, 97, 108, 117, 101, 32, 111, 117, 116, 32, 111, 102, 32, 114, 97, 110, 103, 101])]))
def laid_strconv_ErrSyntax {H : Type} : DataW H := .iface "*errors.errorString" (.ptr (.agg [.lit (.string [105, 110, 118, 97, 108, 105, 100, 32, 115, 121, 110, 116, 97, 120])]))
def laid_pub_paratext_pub_rscmarkdown_htmlEntities {H : Type} : DataW H := .agg [.agg [.lit (.string [38, 97, 109, 112, 59]), .lit (.string [38])], .agg [.lit (.string [38, 97, 112, 111, 115, 59]), .lit (.string [39])], .agg [.lit (.string [38, 99, 111, 112, 121, 59]), .lit (.string [194, 169])], .agg [.lit (.string [38, 102, 114, 97, 99, 51, 52, 59]), .lit (.string [194, 190])], .agg [.lit (.string [38, 103, 116, 59]), .lit (.string [62])], .agg [.lit (.string [38, 104, 101, 108, 108, 105, 112, 59]), .lit (.string [226, 128, 166])], .agg [.lit (.string [38, 108, 116, 59]), .lit (.string [60])], .agg [.lit (.string [38, 109, 100, 97, 115, 104, 59]), .lit (.string [226, 128, 148])], .agg [.lit (.string [38, 110, 98, 115, 112, 59]), .lit (.string [194, 160])], .agg [.lit (.string [38, 110, 100, 97, 115, 104, 59]), .lit (.string [226, 128, 147])], .agg [.lit (.string [38, 113, 117, 111, 116, 59]), .lit (.string [34])], .agg [.lit (.string [38, 114, 101, 103, 59]), .lit (.string [194, 174])]]
/-- One of Go's own tables, pinned by name: the form's constant. -/
def laid_unicode_utf8_first : DataW Unit := Go.Pinned.utf8First

/-- 'laws.FnFlat': WHATEVER THE INPUT: true; the input reads as it did. -/
def fnFlatSpec : ChangeSpec := { name := "fnFlat", fn := fun _ => fun
  | [d] => { results := [.lit (.bool true)], args := [d] }
  | _ => none }
def fnFlatRow : OpenClaim := { program := "ytendaipfdnhnaaagreatdoor", sum := "1556b515eb7d57eee73e4ad9cc0eaddd76a6dad6591a282834e2d055f6faa5c6", func := "pub-paratext/laws.FnFlat", spec := "fnFlat", inPlace := ["internal/bytealg.IndexByteString", "internal/abi.NoEscape", "internal/bytealg.MakeNoZero", "internal/bytealg.abigen_runtime_cmpstring"], unfollowed := true, recurses := true, named := ["unicode/utf8.first", "unicode/utf8.acceptRanges", "pub-paratext/pub/rscmarkdown.htmlEntities", "strconv.ErrSyntax", "strconv.ErrRange", "internal/strconv.uint64pow10", "math/bits.deBruijn32tab", "math/bits.deBruijn64tab"], apart := false, laid := [("math/bits.deBruijn32tab", laid_math_bits_deBruijn32tab), ("math/bits.deBruijn64tab", laid_math_bits_deBruijn64tab), ("internal/strconv.uint64pow10", laid_internal_strconv_uint64pow10), ("unicode/utf8.acceptRanges", laid_unicode_utf8_acceptRanges), ("strconv.ErrRange", laid_strconv_ErrRange), ("strconv.ErrSyntax", laid_strconv_ErrSyntax), ("pub-paratext/pub/rscmarkdown.htmlEntities", laid_pub_paratext_pub_rscmarkdown_htmlEntities), ("unicode/utf8.first", laid_unicode_utf8_first)] }
def FnFlatSaid : Prop := fnFlatRow.holds Tryz.pinned (OpenSpec.ofChange fnFlatSpec)

/-- ITS FALSE NEIGHBOUR: 'it returns false'. Refute it at one input. -/
def fnFlatWrong : ChangeSpec := { name := "fnFlat", fn := fun _ => fun
  | [d] => { results := [.lit (.bool false)], args := [d] }
  | _ => none }
def FnFlatWrongFalsely : Prop := fnFlatRow.holds Tryz.pinned (OpenSpec.ofChange fnFlatWrong)

/-- 'laws.FnExactLines': WHATEVER THE INPUT: true; the input reads as it did. -/
def fnExactLinesSpec : ChangeSpec := { name := "fnExactLines", fn := fun _ => fun
  | [d] => { results := [.lit (.bool true)], args := [d] }
  | _ => none }
def fnExactLinesRow : OpenClaim := { program := "ytendaipfdnhnaaagreatdoor", sum := "1556b515eb7d57eee73e4ad9cc0eaddd76a6dad6591a282834e2d055f6faa5c6", func := "pub-paratext/laws.FnExactLines", spec := "fnExactLines", inPlace := ["internal/bytealg.IndexByteString", "internal/abi.NoEscape", "internal/bytealg.MakeNoZero", "internal/bytealg.abigen_runtime_cmpstring"], unfollowed := true, recurses := true, named := ["unicode/utf8.first", "unicode/utf8.acceptRanges", "pub-paratext/pub/rscmarkdown.htmlEntities", "strconv.ErrSyntax", "strconv.ErrRange", "internal/strconv.uint64pow10", "math/bits.deBruijn32tab", "math/bits.deBruijn64tab"], apart := false, laid := [("math/bits.deBruijn32tab", laid_math_bits_deBruijn32tab), ("math/bits.deBruijn64tab", laid_math_bits_deBruijn64tab), ("internal/strconv.uint64pow10", laid_internal_strconv_uint64pow10), ("unicode/utf8.acceptRanges", laid_unicode_utf8_acceptRanges), ("strconv.ErrRange", laid_strconv_ErrRange), ("strconv.ErrSyntax", laid_strconv_ErrSyntax), ("pub-paratext/pub/rscmarkdown.htmlEntities", laid_pub_paratext_pub_rscmarkdown_htmlEntities), ("unicode/utf8.first", laid_unicode_utf8_first)] }
def FnExactLinesSaid : Prop := fnExactLinesRow.holds Tryz.pinned (OpenSpec.ofChange fnExactLinesSpec)

/-- ITS FALSE NEIGHBOUR: 'it returns false'. Refute it at one input. -/
def fnExactLinesWrong : ChangeSpec := { name := "fnExactLines", fn := fun _ => fun
  | [d] => { results := [.lit (.bool false)], args := [d] }
  | _ => none }
def FnExactLinesWrongFalsely : Prop := fnExactLinesRow.holds Tryz.pinned (OpenSpec.ofChange fnExactLinesWrong)

/-- 'laws.FnPlaced': WHATEVER THE INPUT: true; the input reads as it did. -/
def fnPlacedSpec : ChangeSpec := { name := "fnPlaced", fn := fun _ => fun
  | [d] => { results := [.lit (.bool true)], args := [d] }
  | _ => none }
def fnPlacedRow : OpenClaim := { program := "ytendaipfdnhnaaagreatdoor", sum := "1556b515eb7d57eee73e4ad9cc0eaddd76a6dad6591a282834e2d055f6faa5c6", func := "pub-paratext/laws.FnPlaced", spec := "fnPlaced", inPlace := ["internal/bytealg.IndexByteString", "internal/abi.NoEscape", "internal/bytealg.MakeNoZero", "internal/bytealg.abigen_runtime_cmpstring"], unfollowed := true, recurses := true, named := ["unicode/utf8.first", "unicode/utf8.acceptRanges", "pub-paratext/pub/rscmarkdown.htmlEntities", "strconv.ErrSyntax", "strconv.ErrRange", "internal/strconv.uint64pow10", "math/bits.deBruijn32tab", "math/bits.deBruijn64tab"], apart := false, laid := [("math/bits.deBruijn32tab", laid_math_bits_deBruijn32tab), ("math/bits.deBruijn64tab", laid_math_bits_deBruijn64tab), ("internal/strconv.uint64pow10", laid_internal_strconv_uint64pow10), ("unicode/utf8.acceptRanges", laid_unicode_utf8_acceptRanges), ("strconv.ErrRange", laid_strconv_ErrRange), ("strconv.ErrSyntax", laid_strconv_ErrSyntax), ("pub-paratext/pub/rscmarkdown.htmlEntities", laid_pub_paratext_pub_rscmarkdown_htmlEntities), ("unicode/utf8.first", laid_unicode_utf8_first)] }
def FnPlacedSaid : Prop := fnPlacedRow.holds Tryz.pinned (OpenSpec.ofChange fnPlacedSpec)

/-- ITS FALSE NEIGHBOUR: 'it returns false'. Refute it at one input. -/
def fnPlacedWrong : ChangeSpec := { name := "fnPlaced", fn := fun _ => fun
  | [d] => { results := [.lit (.bool false)], args := [d] }
  | _ => none }
def FnPlacedWrongFalsely : Prop := fnPlacedRow.holds Tryz.pinned (OpenSpec.ofChange fnPlacedWrong)

/-- 'laws.FnForeign': WHATEVER THE INPUT: true; the input reads as it did. -/
def fnForeignSpec : ChangeSpec := { name := "fnForeign", fn := fun _ => fun
  | [d] => { results := [.lit (.bool true)], args := [d] }
  | _ => none }
def fnForeignRow : OpenClaim := { program := "ytendaipfdnhnaaagreatdoor", sum := "1556b515eb7d57eee73e4ad9cc0eaddd76a6dad6591a282834e2d055f6faa5c6", func := "pub-paratext/laws.FnForeign", spec := "fnForeign", inPlace := ["internal/bytealg.IndexByteString", "internal/abi.NoEscape", "internal/bytealg.MakeNoZero", "internal/bytealg.abigen_runtime_cmpstring"], unfollowed := true, recurses := true, named := ["unicode/utf8.first", "unicode/utf8.acceptRanges", "pub-paratext/pub/rscmarkdown.htmlEntities", "strconv.ErrSyntax", "strconv.ErrRange", "internal/strconv.uint64pow10", "math/bits.deBruijn32tab", "math/bits.deBruijn64tab"], apart := false, laid := [("math/bits.deBruijn32tab", laid_math_bits_deBruijn32tab), ("math/bits.deBruijn64tab", laid_math_bits_deBruijn64tab), ("internal/strconv.uint64pow10", laid_internal_strconv_uint64pow10), ("unicode/utf8.acceptRanges", laid_unicode_utf8_acceptRanges), ("strconv.ErrRange", laid_strconv_ErrRange), ("strconv.ErrSyntax", laid_strconv_ErrSyntax), ("pub-paratext/pub/rscmarkdown.htmlEntities", laid_pub_paratext_pub_rscmarkdown_htmlEntities), ("unicode/utf8.first", laid_unicode_utf8_first)] }
def FnForeignSaid : Prop := fnForeignRow.holds Tryz.pinned (OpenSpec.ofChange fnForeignSpec)

/-- ITS FALSE NEIGHBOUR: 'it returns false'. Refute it at one input. -/
def fnForeignWrong : ChangeSpec := { name := "fnForeign", fn := fun _ => fun
  | [d] => { results := [.lit (.bool false)], args := [d] }
  | _ => none }
def FnForeignWrongFalsely : Prop := fnForeignRow.holds Tryz.pinned (OpenSpec.ofChange fnForeignWrong)

/-- 'laws.FnWrapped': WHATEVER THE INPUT: true; the input reads as it did. -/
def fnWrappedSpec : ChangeSpec := { name := "fnWrapped", fn := fun _ => fun
  | [d1, d2] => { results := [.lit (.bool true)], args := [d1, d2] }
  | _ => none }
def fnWrappedRow : OpenClaim := { program := "ytendaipfdnhnaaagreatdoor", sum := "1556b515eb7d57eee73e4ad9cc0eaddd76a6dad6591a282834e2d055f6faa5c6", func := "pub-paratext/laws.FnWrapped", spec := "fnWrapped", inPlace := ["internal/bytealg.IndexByteString", "internal/abi.NoEscape", "internal/bytealg.MakeNoZero", "internal/bytealg.abigen_runtime_cmpstring"], unfollowed := true, recurses := true, named := ["unicode/utf8.first", "unicode/utf8.acceptRanges", "pub-paratext/pub/rscmarkdown.htmlEntities", "strconv.ErrSyntax", "strconv.ErrRange", "internal/strconv.uint64pow10", "math/bits.deBruijn32tab", "math/bits.deBruijn64tab"], apart := false, laid := [("math/bits.deBruijn32tab", laid_math_bits_deBruijn32tab), ("math/bits.deBruijn64tab", laid_math_bits_deBruijn64tab), ("internal/strconv.uint64pow10", laid_internal_strconv_uint64pow10), ("unicode/utf8.acceptRanges", laid_unicode_utf8_acceptRanges), ("strconv.ErrRange", laid_strconv_ErrRange), ("strconv.ErrSyntax", laid_strconv_ErrSyntax), ("pub-paratext/pub/rscmarkdown.htmlEntities", laid_pub_paratext_pub_rscmarkdown_htmlEntities), ("unicode/utf8.first", laid_unicode_utf8_first)] }
def FnWrappedSaid : Prop := fnWrappedRow.holds Tryz.pinned (OpenSpec.ofChange fnWrappedSpec)

/-- ITS FALSE NEIGHBOUR: 'it returns false'. Refute it at one input. -/
def fnWrappedWrong : ChangeSpec := { name := "fnWrapped", fn := fun _ => fun
  | [d1, d2] => { results := [.lit (.bool false)], args := [d1, d2] }
  | _ => none }
def FnWrappedWrongFalsely : Prop := fnWrappedRow.holds Tryz.pinned (OpenSpec.ofChange fnWrappedWrong)

/-- 'laws.FnSpread': WHATEVER THE INPUT: true; the input reads as it did. -/
def fnSpreadSpec : ChangeSpec := { name := "fnSpread", fn := fun _ => fun
  | [d1, d2] => { results := [.lit (.bool true)], args := [d1, d2] }
  | _ => none }
def fnSpreadRow : OpenClaim := { program := "ytendaipfdnhnaaagreatdoor", sum := "1556b515eb7d57eee73e4ad9cc0eaddd76a6dad6591a282834e2d055f6faa5c6", func := "pub-paratext/laws.FnSpread", spec := "fnSpread", inPlace := ["internal/bytealg.IndexByteString", "internal/abi.NoEscape", "internal/bytealg.MakeNoZero"], unfollowed := true, recurses := true, named := ["unicode/utf8.first", "unicode/utf8.acceptRanges", "pub-paratext/pub/rscmarkdown.htmlEntities", "strconv.ErrSyntax", "strconv.ErrRange", "internal/strconv.uint64pow10", "math/bits.deBruijn32tab", "math/bits.deBruijn64tab"], apart := false, laid := [("math/bits.deBruijn32tab", laid_math_bits_deBruijn32tab), ("math/bits.deBruijn64tab", laid_math_bits_deBruijn64tab), ("internal/strconv.uint64pow10", laid_internal_strconv_uint64pow10), ("unicode/utf8.acceptRanges", laid_unicode_utf8_acceptRanges), ("strconv.ErrRange", laid_strconv_ErrRange), ("strconv.ErrSyntax", laid_strconv_ErrSyntax), ("pub-paratext/pub/rscmarkdown.htmlEntities", laid_pub_paratext_pub_rscmarkdown_htmlEntities), ("unicode/utf8.first", laid_unicode_utf8_first)] }
def FnSpreadSaid : Prop := fnSpreadRow.holds Tryz.pinned (OpenSpec.ofChange fnSpreadSpec)

/-- ITS FALSE NEIGHBOUR: 'it returns false'. Refute it at one input. -/
def fnSpreadWrong : ChangeSpec := { name := "fnSpread", fn := fun _ => fun
  | [d1, d2] => { results := [.lit (.bool false)], args := [d1, d2] }
  | _ => none }
def FnSpreadWrongFalsely : Prop := fnSpreadRow.holds Tryz.pinned (OpenSpec.ofChange fnSpreadWrong)

/-- 'laws.FnBuiltTwice': WHATEVER THE INPUT: true; the input reads as it did. -/
def fnBuiltTwiceSpec : ChangeSpec := { name := "fnBuiltTwice", fn := fun _ => fun
  | [d] => { results := [.lit (.bool true)], args := [d] }
  | _ => none }
def fnBuiltTwiceRow : OpenClaim := { program := "ytendaipfdnhnaaagreatdoor", sum := "1556b515eb7d57eee73e4ad9cc0eaddd76a6dad6591a282834e2d055f6faa5c6", func := "pub-paratext/laws.FnBuiltTwice", spec := "fnBuiltTwice", inPlace := ["internal/bytealg.IndexByteString", "internal/abi.NoEscape", "internal/bytealg.MakeNoZero"], unfollowed := true, recurses := true, named := ["unicode/utf8.first", "unicode/utf8.acceptRanges", "pub-paratext/pub/rscmarkdown.htmlEntities", "strconv.ErrSyntax", "strconv.ErrRange", "internal/strconv.uint64pow10", "math/bits.deBruijn32tab", "math/bits.deBruijn64tab"], apart := false, laid := [("math/bits.deBruijn32tab", laid_math_bits_deBruijn32tab), ("math/bits.deBruijn64tab", laid_math_bits_deBruijn64tab), ("internal/strconv.uint64pow10", laid_internal_strconv_uint64pow10), ("unicode/utf8.acceptRanges", laid_unicode_utf8_acceptRanges), ("strconv.ErrRange", laid_strconv_ErrRange), ("strconv.ErrSyntax", laid_strconv_ErrSyntax), ("pub-paratext/pub/rscmarkdown.htmlEntities", laid_pub_paratext_pub_rscmarkdown_htmlEntities), ("unicode/utf8.first", laid_unicode_utf8_first)] }
def FnBuiltTwiceSaid : Prop := fnBuiltTwiceRow.holds Tryz.pinned (OpenSpec.ofChange fnBuiltTwiceSpec)

/-- ITS FALSE NEIGHBOUR: 'it returns false'. Refute it at one input. -/
def fnBuiltTwiceWrong : ChangeSpec := { name := "fnBuiltTwice", fn := fun _ => fun
  | [d] => { results := [.lit (.bool false)], args := [d] }
  | _ => none }
def FnBuiltTwiceWrongFalsely : Prop := fnBuiltTwiceRow.holds Tryz.pinned (OpenSpec.ofChange fnBuiltTwiceWrong)

/- THE SECOND FORM. 'bulk': how many values and letters a reading holds, each counted each time it is reached (what is shared counts as often as it is met; a slice's spare places count too). A statement '..UptoSaid' is the law's where the arguments, and the package variables that the reading takes, are together of bulk at most 1048576: NARROWER than '..Said'. Prove '..Said' where nothing that the law and all that it calls make is longer than what came in: it says more and counts as full. Else prove '..UptoSaid'. A law counts once. -/
mutual
def uptoBulk {H : Type} : DataW H → Nat
  | .lit (.string bytes) => bytes.length + 1
  | .lit _ => 1
  | .nil => 1
  | .ptr d => uptoBulk d + 1
  | .slice elems spare => uptoBulkAll elems + uptoBulkAll spare + 1
  | .agg parts => uptoBulkAll parts + 1
  | .iface _ d => uptoBulk d + 1
  | .map entries => uptoBulkEntries entries + 1
  | .held _ => 1
def uptoBulkAll {H : Type} : List (DataW H) → Nat
  | [] => 0
  | d :: r => uptoBulk d + uptoBulkAll r
def uptoBulkEntries {H : Type} : List (Lit × DataW H) → Nat
  | [] => 0
  | x :: r => uptoBulkEntry x + uptoBulkEntries r
def uptoBulkEntry {H : Type} : Lit × DataW H → Nat
  | (.string bytes, d) => bytes.length + uptoBulk d + 1
  | (_, d) => uptoBulk d + 1
 end
def uptoSmall : (H : Type) → List (DataW H) → Bool := fun _ ds => decide (uptoBulkAll ds ≤ 1048576)
def OpenSpec.upto (s : _root_.Go.ChangeSpec) : _root_.Go.OpenSpec := { _root_.Go.OpenSpec.ofChange s with cond := some uptoSmall }

/-- 'laws.FnFlat', WHERE WHAT IT READS IS OF BULK AT MOST 1048576: true; the input reads as it did. -/
def fnFlatUptoRow : OpenClaim := { program := "ytendaipfdnhnaaagreatdoor", sum := "1556b515eb7d57eee73e4ad9cc0eaddd76a6dad6591a282834e2d055f6faa5c6", func := "pub-paratext/laws.FnFlat", spec := "fnFlat", inPlace := ["internal/bytealg.IndexByteString", "internal/abi.NoEscape", "internal/bytealg.MakeNoZero", "internal/bytealg.abigen_runtime_cmpstring"], unfollowed := true, recurses := true, named := ["unicode/utf8.first", "unicode/utf8.acceptRanges", "pub-paratext/pub/rscmarkdown.htmlEntities", "strconv.ErrSyntax", "strconv.ErrRange", "internal/strconv.uint64pow10", "math/bits.deBruijn32tab", "math/bits.deBruijn64tab"], apart := false, laid := [("math/bits.deBruijn32tab", laid_math_bits_deBruijn32tab), ("math/bits.deBruijn64tab", laid_math_bits_deBruijn64tab), ("internal/strconv.uint64pow10", laid_internal_strconv_uint64pow10), ("unicode/utf8.acceptRanges", laid_unicode_utf8_acceptRanges), ("strconv.ErrRange", laid_strconv_ErrRange), ("strconv.ErrSyntax", laid_strconv_ErrSyntax), ("pub-paratext/pub/rscmarkdown.htmlEntities", laid_pub_paratext_pub_rscmarkdown_htmlEntities), ("unicode/utf8.first", laid_unicode_utf8_first)], narrowed := true }
def FnFlatUptoSaid : Prop := fnFlatUptoRow.holds Tryz.pinned (OpenSpec.upto fnFlatSpec)

/-- 'laws.FnExactLines', WHERE WHAT IT READS IS OF BULK AT MOST 1048576: true; the input reads as it did. -/
def fnExactLinesUptoRow : OpenClaim := { program := "ytendaipfdnhnaaagreatdoor", sum := "1556b515eb7d57eee73e4ad9cc0eaddd76a6dad6591a282834e2d055f6faa5c6", func := "pub-paratext/laws.FnExactLines", spec := "fnExactLines", inPlace := ["internal/bytealg.IndexByteString", "internal/abi.NoEscape", "internal/bytealg.MakeNoZero", "internal/bytealg.abigen_runtime_cmpstring"], unfollowed := true, recurses := true, named := ["unicode/utf8.first", "unicode/utf8.acceptRanges", "pub-paratext/pub/rscmarkdown.htmlEntities", "strconv.ErrSyntax", "strconv.ErrRange", "internal/strconv.uint64pow10", "math/bits.deBruijn32tab", "math/bits.deBruijn64tab"], apart := false, laid := [("math/bits.deBruijn32tab", laid_math_bits_deBruijn32tab), ("math/bits.deBruijn64tab", laid_math_bits_deBruijn64tab), ("internal/strconv.uint64pow10", laid_internal_strconv_uint64pow10), ("unicode/utf8.acceptRanges", laid_unicode_utf8_acceptRanges), ("strconv.ErrRange", laid_strconv_ErrRange), ("strconv.ErrSyntax", laid_strconv_ErrSyntax), ("pub-paratext/pub/rscmarkdown.htmlEntities", laid_pub_paratext_pub_rscmarkdown_htmlEntities), ("unicode/utf8.first", laid_unicode_utf8_first)], narrowed := true }
def FnExactLinesUptoSaid : Prop := fnExactLinesUptoRow.holds Tryz.pinned (OpenSpec.upto fnExactLinesSpec)

/-- 'laws.FnPlaced', WHERE WHAT IT READS IS OF BULK AT MOST 1048576: true; the input reads as it did. -/
def fnPlacedUptoRow : OpenClaim := { program := "ytendaipfdnhnaaagreatdoor", sum := "1556b515eb7d57eee73e4ad9cc0eaddd76a6dad6591a282834e2d055f6faa5c6", func := "pub-paratext/laws.FnPlaced", spec := "fnPlaced", inPlace := ["internal/bytealg.IndexByteString", "internal/abi.NoEscape", "internal/bytealg.MakeNoZero", "internal/bytealg.abigen_runtime_cmpstring"], unfollowed := true, recurses := true, named := ["unicode/utf8.first", "unicode/utf8.acceptRanges", "pub-paratext/pub/rscmarkdown.htmlEntities", "strconv.ErrSyntax", "strconv.ErrRange", "internal/strconv.uint64pow10", "math/bits.deBruijn32tab", "math/bits.deBruijn64tab"], apart := false, laid := [("math/bits.deBruijn32tab", laid_math_bits_deBruijn32tab), ("math/bits.deBruijn64tab", laid_math_bits_deBruijn64tab), ("internal/strconv.uint64pow10", laid_internal_strconv_uint64pow10), ("unicode/utf8.acceptRanges", laid_unicode_utf8_acceptRanges), ("strconv.ErrRange", laid_strconv_ErrRange), ("strconv.ErrSyntax", laid_strconv_ErrSyntax), ("pub-paratext/pub/rscmarkdown.htmlEntities", laid_pub_paratext_pub_rscmarkdown_htmlEntities), ("unicode/utf8.first", laid_unicode_utf8_first)], narrowed := true }
def FnPlacedUptoSaid : Prop := fnPlacedUptoRow.holds Tryz.pinned (OpenSpec.upto fnPlacedSpec)

/-- 'laws.FnForeign', WHERE WHAT IT READS IS OF BULK AT MOST 1048576: true; the input reads as it did. -/
def fnForeignUptoRow : OpenClaim := { program := "ytendaipfdnhnaaagreatdoor", sum := "1556b515eb7d57eee73e4ad9cc0eaddd76a6dad6591a282834e2d055f6faa5c6", func := "pub-paratext/laws.FnForeign", spec := "fnForeign", inPlace := ["internal/bytealg.IndexByteString", "internal/abi.NoEscape", "internal/bytealg.MakeNoZero", "internal/bytealg.abigen_runtime_cmpstring"], unfollowed := true, recurses := true, named := ["unicode/utf8.first", "unicode/utf8.acceptRanges", "pub-paratext/pub/rscmarkdown.htmlEntities", "strconv.ErrSyntax", "strconv.ErrRange", "internal/strconv.uint64pow10", "math/bits.deBruijn32tab", "math/bits.deBruijn64tab"], apart := false, laid := [("math/bits.deBruijn32tab", laid_math_bits_deBruijn32tab), ("math/bits.deBruijn64tab", laid_math_bits_deBruijn64tab), ("internal/strconv.uint64pow10", laid_internal_strconv_uint64pow10), ("unicode/utf8.acceptRanges", laid_unicode_utf8_acceptRanges), ("strconv.ErrRange", laid_strconv_ErrRange), ("strconv.ErrSyntax", laid_strconv_ErrSyntax), ("pub-paratext/pub/rscmarkdown.htmlEntities", laid_pub_paratext_pub_rscmarkdown_htmlEntities), ("unicode/utf8.first", laid_unicode_utf8_first)], narrowed := true }
def FnForeignUptoSaid : Prop := fnForeignUptoRow.holds Tryz.pinned (OpenSpec.upto fnForeignSpec)

/-- 'laws.FnWrapped', WHERE WHAT IT READS IS OF BULK AT MOST 1048576: true; the input reads as it did. -/
def fnWrappedUptoRow : OpenClaim := { program := "ytendaipfdnhnaaagreatdoor", sum := "1556b515eb7d57eee73e4ad9cc0eaddd76a6dad6591a282834e2d055f6faa5c6", func := "pub-paratext/laws.FnWrapped", spec := "fnWrapped", inPlace := ["internal/bytealg.IndexByteString", "internal/abi.NoEscape", "internal/bytealg.MakeNoZero", "internal/bytealg.abigen_runtime_cmpstring"], unfollowed := true, recurses := true, named := ["unicode/utf8.first", "unicode/utf8.acceptRanges", "pub-paratext/pub/rscmarkdown.htmlEntities", "strconv.ErrSyntax", "strconv.ErrRange", "internal/strconv.uint64pow10", "math/bits.deBruijn32tab", "math/bits.deBruijn64tab"], apart := false, laid := [("math/bits.deBruijn32tab", laid_math_bits_deBruijn32tab), ("math/bits.deBruijn64tab", laid_math_bits_deBruijn64tab), ("internal/strconv.uint64pow10", laid_internal_strconv_uint64pow10), ("unicode/utf8.acceptRanges", laid_unicode_utf8_acceptRanges), ("strconv.ErrRange", laid_strconv_ErrRange), ("strconv.ErrSyntax", laid_strconv_ErrSyntax), ("pub-paratext/pub/rscmarkdown.htmlEntities", laid_pub_paratext_pub_rscmarkdown_htmlEntities), ("unicode/utf8.first", laid_unicode_utf8_first)], narrowed := true }
def FnWrappedUptoSaid : Prop := fnWrappedUptoRow.holds Tryz.pinned (OpenSpec.upto fnWrappedSpec)

/-- 'laws.FnSpread', WHERE WHAT IT READS IS OF BULK AT MOST 1048576: true; the input reads as it did. -/
def fnSpreadUptoRow : OpenClaim := { program := "ytendaipfdnhnaaagreatdoor", sum := "1556b515eb7d57eee73e4ad9cc0eaddd76a6dad6591a282834e2d055f6faa5c6", func := "pub-paratext/laws.FnSpread", spec := "fnSpread", inPlace := ["internal/bytealg.IndexByteString", "internal/abi.NoEscape", "internal/bytealg.MakeNoZero"], unfollowed := true, recurses := true, named := ["unicode/utf8.first", "unicode/utf8.acceptRanges", "pub-paratext/pub/rscmarkdown.htmlEntities", "strconv.ErrSyntax", "strconv.ErrRange", "internal/strconv.uint64pow10", "math/bits.deBruijn32tab", "math/bits.deBruijn64tab"], apart := false, laid := [("math/bits.deBruijn32tab", laid_math_bits_deBruijn32tab), ("math/bits.deBruijn64tab", laid_math_bits_deBruijn64tab), ("internal/strconv.uint64pow10", laid_internal_strconv_uint64pow10), ("unicode/utf8.acceptRanges", laid_unicode_utf8_acceptRanges), ("strconv.ErrRange", laid_strconv_ErrRange), ("strconv.ErrSyntax", laid_strconv_ErrSyntax), ("pub-paratext/pub/rscmarkdown.htmlEntities", laid_pub_paratext_pub_rscmarkdown_htmlEntities), ("unicode/utf8.first", laid_unicode_utf8_first)], narrowed := true }
def FnSpreadUptoSaid : Prop := fnSpreadUptoRow.holds Tryz.pinned (OpenSpec.upto fnSpreadSpec)

/-- 'laws.FnBuiltTwice', WHERE WHAT IT READS IS OF BULK AT MOST 1048576: true; the input reads as it did. -/
def fnBuiltTwiceUptoRow : OpenClaim := { program := "ytendaipfdnhnaaagreatdoor", sum := "1556b515eb7d57eee73e4ad9cc0eaddd76a6dad6591a282834e2d055f6faa5c6", func := "pub-paratext/laws.FnBuiltTwice", spec := "fnBuiltTwice", inPlace := ["internal/bytealg.IndexByteString", "internal/abi.NoEscape", "internal/bytealg.MakeNoZero"], unfollowed := true, recurses := true, named := ["unicode/utf8.first", "unicode/utf8.acceptRanges", "pub-paratext/pub/rscmarkdown.htmlEntities", "strconv.ErrSyntax", "strconv.ErrRange", "internal/strconv.uint64pow10", "math/bits.deBruijn32tab", "math/bits.deBruijn64tab"], apart := false, laid := [("math/bits.deBruijn32tab", laid_math_bits_deBruijn32tab), ("math/bits.deBruijn64tab", laid_math_bits_deBruijn64tab), ("internal/strconv.uint64pow10", laid_internal_strconv_uint64pow10), ("unicode/utf8.acceptRanges", laid_unicode_utf8_acceptRanges), ("strconv.ErrRange", laid_strconv_ErrRange), ("strconv.ErrSyntax", laid_strconv_ErrSyntax), ("pub-paratext/pub/rscmarkdown.htmlEntities", laid_pub_paratext_pub_rscmarkdown_htmlEntities), ("unicode/utf8.first", laid_unicode_utf8_first)], narrowed := true }
def FnBuiltTwiceUptoSaid : Prop := fnBuiltTwiceUptoRow.holds Tryz.pinned (OpenSpec.upto fnBuiltTwiceSpec)

end Rows
end Go.Proofs.YtendaipfdnhnaaaGreatDoor
