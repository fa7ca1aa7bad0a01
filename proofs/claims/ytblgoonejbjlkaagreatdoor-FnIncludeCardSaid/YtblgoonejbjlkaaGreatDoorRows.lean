/-
  NARROWER THAN 'FOR EVERY INPUT', by the rows' own cells (each row's printed sentence says how): FnDefineArgs: laid · FnMacro: laid · FnMacroArgs: laid · FnMacroNone: laid · FnDefine: laid · FnIfNothing: laid · FnInclude: laid · FnUndef: laid.
  DERIVED. THE GIVEN ROWS OF THIS SEAT. 8 by the template 'for every input the law returns true; each argument reads behind the call as it read before'; 0 by the template 'total and deterministic' (their statements: YtblgoonejbjlkaaGreatDoorTotals.lean).
  GIVEN WITH THE SEED: the statements are not yours to turn. If you find one false, say at which input.
  Laid BY PROGRAM, IN A SANDBOX (cutbox-rows.mjs): the forced cells as the released guide's own fill.sh prints them over the translation c970d73d5850b686… (all of the seat's roots in one cut). By AI agents, Wed Nov 11 2026. No macro, syntax, notation, axiom, sorry.
-/
import Derived.Test.YtblgoonejbjlkaaGreatDoorChecked
import GoSem.Claim
import GoSem.ClaimJoined
import GoSem.ClaimMapViews
import Derived.JoinedTies
import Derived.KernelRfl
namespace Go.Proofs.YtblgoonejbjlkaaGreatDoor
/- THE CELL 'sum', in the pinned program and in every row, IS THE sha256 OF THE DUMP (.gsa) THAT YtblgoonejbjlkaaGreatDoorProg.lean LOADS. Nothing in Lean hashes anything: it is a label: what it is worth is what the hold of that sum in a sandbox is worth. -/
noncomputable def Tryz.pinned : Pinned := { name := "ytblgoonejbjlkaagreatdoor", sum := "c970d73d5850b68698797de7c5b8a449069905191f700bc8678190b04b97b976", checked := Tryz.checked }
namespace Rows
def none {H : Type} : Left H := { results := [], args := [] }

/- WHAT THE LISTED PACKAGE-LEVEL VARIABLES READ AS WHEN THE CALL BEGINS. Each datum BY PROGRAM (the guide's laid-datum.mjs) off the statement by which the dump's own 'gosem.cut.vars' lays the variable. In a bare row this is a premise. The card (YtblgoonejbjlkaaGreatDoorCards.lean) ties it to the program's text. -/
def laid_math_bits_deBruijn32tab {H : Type} : DataW H := .agg [.lit (.int .u8 0), .lit (.int .u8 1), .lit (.int .u8 28), .lit (.int .u8 2), .lit (.int .u8 29), .lit (.int .u8 14), .lit (.int .u8 24), .lit (.int .u8 3), .lit (.int .u8 30), .lit (.int .u8 22), .lit (.int .u8 20), .lit (.int .u8 15), .lit (.int .u8 25), .lit (.int .u8 17), .lit (.int .u8 4), .lit (.int .u8 8), .lit (.int .u8 31), .lit (.int .u8 27), .lit (.int .u8 13), .lit (.int .u8 23), .lit (.int .u8 21), .lit (.int .u8 19), .lit (.int .u8 16), .lit (.int .u8 7), .lit (.int .u8 26), .lit (.int .u8 12), .lit (.int .u8 18), .lit (.int .u8 6), .lit (.int .u8 11), .lit (.int .u8 5), .lit (.int .u8 10), .lit (.int .u8 9)]
def laid_math_bits_deBruijn64tab {H : Type} : DataW H := .agg [.lit (.int .u8 0), .lit (.int .u8 1), .lit (.int .u8 56), .lit (.int .u8 2), .lit (.int .u8 57), .lit (.int .u8 49), .lit (.int .u8 28), .lit (.int .u8 3), .lit (.int .u8 61), .lit (.int .u8 58), .lit (.int .u8 42), .lit (.int .u8 50), .lit (.int .u8 38), .lit (.int .u8 29), .lit (.int .u8 17), .lit (.int .u8 4), .lit (.int .u8 62), .lit (.int .u8 47), .lit (.int .u8 59), .lit (.int .u8 36), .lit (.int .u8 45), .lit (.int .u8 43), .lit (.int .u8 51), .lit (.int .u8 22), .lit (.int .u8 53), .lit (.int .u8 39), .lit (.int .u8 33), .lit (.int .u8 30), .lit (.int .u8 24), .lit (.int .u8 18), .lit (.int .u8 12), .lit (.int .u8 5), .lit (.int .u8 63), .lit (.int .u8 55), .lit (.int .u8 48), .lit (.int .u8 27), .lit (.int .u8 60), .lit (.int .u8 41), .lit (.int .u8 37), .lit (.int .u8 16), .lit (.int .u8 46), .lit (.int .u8 35), .lit (.int .u8 44), .lit (.int .u8 21), .lit (.int .u8 52), .lit (.int .u8 32), .lit (.int .u8 23), .lit (.int .u8 11), .lit (.int .u8 54), .lit (.int .u8 26), .lit (.int .u8 40), .lit (.int .u8 15), .lit (.int .u8 34), .lit (.int .u8 20), .lit (.int .u8 31), .lit (.int .u8 10), .lit (.int .u8 25), .lit (.int .u8 14), .lit (.int .u8 19), .lit (.int .u8 9), .lit (.int .u8 13), .lit (.int .u8 8), .lit (.int .u8 7), .lit (.int .u8 6)]
def laid_io_EOF {H : Type} : DataW H := .iface "*errors.errorString" (.ptr (.agg [.lit (.string [69, 79, 70])]))
def laid_unicode_properties {H : Type} : DataW H := .agg [.lit (.int .u8 1), .lit (.int .u8 1), .lit (.int .u8 1), .lit (.int .u8 1), .lit (.int .u8 1), .lit (.int .u8 1), .lit (.int .u8 1), .lit (.int .u8 1), .lit (.int .u8 1), .lit (.int .u8 1), .lit (.int .u8 1), .lit (.int .u8 1), .lit (.int .u8 1), .lit (.int .u8 1), .lit (.int .u8 1), .lit (.int .u8 1), .lit (.int .u8 1), .lit (.int .u8 1), .lit (.int .u8 1), .lit (.int .u8 1), .lit (.int .u8 1), .lit (.int .u8 1), .lit (.int .u8 1), .lit (.int .u8 1), .lit (.int .u8 1), .lit (.int .u8 1), .lit (.int .u8 1), .lit (.int .u8 1), .lit (.int .u8 1), .lit (.int .u8 1), .lit (.int .u8 1), .lit (.int .u8 1), .lit (.int .u8 144), .lit (.int .u8 130), .lit (.int .u8 130), .lit (.int .u8 130), .lit (.int .u8 136), .lit (.int .u8 130), .lit (.int .u8 130), .lit (.int .u8 130), .lit (.int .u8 130), .lit (.int .u8 130), .lit (.int .u8 130), .lit (.int .u8 136), .lit (.int .u8 130), .lit (.int .u8 130), .lit (.int .u8 130), .lit (.int .u8 130), .lit (.int .u8 132), .lit (.int .u8 132), .lit (.int .u8 132), .lit (.int .u8 132), .lit (.int .u8 132), .lit (.int .u8 132), .lit (.int .u8 132), .lit (.int .u8 132), .lit (.int .u8 132), .lit (.int .u8 132), .lit (.int .u8 130), .lit (.int .u8 130), .lit (.int .u8 136), .lit (.int .u8 136), .lit (.int .u8 136), .lit (.int .u8 130), .lit (.int .u8 130), .lit (.int .u8 160), .lit (.int .u8 160), .lit (.int .u8 160), .lit (.int .u8 160), .lit (.int .u8 160), .lit (.int .u8 160), .lit (.int .u8 160), .lit (.int .u8 160), .lit (.int .u8 160), .lit (.int .u8 160), .lit (.int .u8 160), .lit (.int .u8 160), .lit (.int .u8 160), .lit (.int .u8 160), .lit (.int .u8 160), .lit (.int .u8 160), .lit (.int .u8 160), .lit (.int .u8 160), .lit (.int .u8 160), .lit (.int .u8 160), .lit (.int .u8 160), .lit (.int .u8 160), .lit (.int .u8 160), .lit (.int .u8 160), .lit (.int .u8 160), .lit (.int .u8 160), .lit (.int .u8 130), .lit (.int .u8 130), .lit (.int .u8 130), .lit (.int .u8 136), .lit (.int .u8 130), .lit (.int .u8 136), .lit (.int .u8 192), .lit (.int .u8 192), .lit (.int .u8 192), .lit (.int .u8 192), .lit (.int .u8 192), .lit (.int .u8 192), .lit (.int .u8 192), .lit (.int .u8 192), .lit (.int .u8 192), .lit (.int .u8 192), .lit (.int .u8 192), .lit (.int .u8 192), .lit (.int .u8 192), .lit (.int .u8 192), .lit (.int .u8 192), .lit (.int .u8 192), .lit (.int .u8 192), .lit (.int .u8 192), .lit (.int .u8 192), .lit (.int .u8 192), .lit (.int .u8 192), .lit (.int .u8 192), .lit (.int .u8 192), .lit (.int .u8 192), .lit (.int .u8 192), .lit (.int .u8 192), .lit (.int .u8 130), .lit (.int .u8 136), .lit (.int .u8 130), .lit (.int .u8 136), .lit (.int .u8 1), .lit (.int .u8 1), .lit (.int .u8 1), .lit (.int .u8 1), .lit (.int .u8 1), .lit (.int .u8 1), .lit (.int .u8 1), .lit (.int .u8 1), .lit (.int .u8 1), .lit (.int .u8 1), .lit (.int .u8 1), .lit (.int .u8 1), .lit (.int .u8 1), .lit (.int .u8 1), .lit (.int .u8 1), .lit (.int .u8 1), .lit (.int .u8 1), .lit (.int .u8 1), .lit (.int .u8 1), .lit (.int .u8 1), .lit (.int .u8 1), .lit (.int .u8 1), .lit (.int .u8 1), .lit (.int .u8 1), .lit (.int .u8 1), .lit (.int .u8 1), .lit (.int .u8 1), .lit (.int .u8 1), .lit (.int .u8 1), .lit (.int .u8 1), .lit (.int .u8 1), .lit (.int .u8 1), .lit (.int .u8 1), .lit (.int .u8 16), .lit (.int .u8 130), .lit (.int .u8 136), .lit (.int .u8 136), .lit (.int .u8 136), .lit (.int .u8 136), .lit (.int .u8 136), .lit (.int .u8 130), .lit (.int .u8 136), .lit (.int .u8 136), .lit (.int .u8 224), .lit (.int .u8 130), .lit (.int .u8 136), .lit (.int .u8 0), .lit (.int .u8 136), .lit (.int .u8 136), .lit (.int .u8 136), .lit (.int .u8 136), .lit (.int .u8 132), .lit (.int .u8 132), .lit (.int .u8 136), .lit (.int .u8 192), .lit (.int .u8 130), .lit (.int .u8 130), .lit (.int .u8 136), .lit (.int .u8 132), .lit (.int .u8 224), .lit (.int .u8 130), .lit (.int .u8 132), .lit (.int .u8 132), .lit (.int .u8 132), .lit (.int .u8 130), .lit (.int .u8 160), .lit (.int .u8 160), .lit (.int .u8 160), .lit (.int .u8 160), .lit (.int .u8 160), .lit (.int .u8 160), .lit (.int .u8 160), .lit (.int .u8 160), .lit (.int .u8 160), .lit (.int .u8 160), .lit (.int .u8 160), .lit (.int .u8 160), .lit (.int .u8 160), .lit (.int .u8 160), .lit (.int .u8 160), .lit (.int .u8 160), .lit (.int .u8 160), .lit (.int .u8 160), .lit (.int .u8 160), .lit (.int .u8 160), .lit (.int .u8 160), .lit (.int .u8 160), .lit (.int .u8 160), .lit (.int .u8 136), .lit (.int .u8 160), .lit (.int .u8 160), .lit (.int .u8 160), .lit (.int .u8 160), .lit (.int .u8 160), .lit (.int .u8 160), .lit (.int .u8 160), .lit (.int .u8 192), .lit (.int .u8 192), .lit (.int .u8 192), .lit (.int .u8 192), .lit (.int .u8 192), .lit (.int .u8 192), .lit (.int .u8 192), .lit (.int .u8 192), .lit (.int .u8 192), .lit (.int .u8 192), .lit (.int .u8 192), .lit (.int .u8 192), .lit (.int .u8 192), .lit (.int .u8 192), .lit (.int .u8 192), .lit (.int .u8 192), .lit (.int .u8 192), .lit (.int .u8 192), .lit (.int .u8 192), .lit (.int .u8 192), .lit (.int .u8 192), .lit (.int .u8 192), .lit (.int .u8 192), .lit (.int .u8 192), .lit (.int .u8 136), .lit (.int .u8 192), .lit (.int .u8 192), .lit (.int .u8 192), .lit (.int .u8 192), .lit (.int .u8 192), .lit (.int .u8 192), .lit (.int .u8 192), .lit (.int .u8 192)]

/-- 'laws.FnDefineArgs': WHATEVER THE INPUT: true; the input reads as it did. -/
def fnDefineArgsSpec : ChangeSpec := { name := "fnDefineArgs", fn := fun _ => fun
  | [d1, d2, d3, d4, d5] => { results := [.lit (.bool true)], args := [d1, d2, d3, d4, d5] }
  | _ => none }
def fnDefineArgsRow : OpenClaim := { program := "ytblgoonejbjlkaagreatdoor", sum := "c970d73d5850b68698797de7c5b8a449069905191f700bc8678190b04b97b976", func := "loop.example/pub-g01461/laws.FnDefineArgs", spec := "fnDefineArgs", inPlace := ["internal/bytealg.IndexByteString"], unfollowed := true, recurses := true, named := ["unicode.properties", "unicode.Letter", "unicode.Digit", "io.EOF", "unicode/utf8.first", "unicode/utf8.acceptRanges", "bytes.ErrTooLarge", "strings.asciiSpace", "unicode.White_Space", "strconv.isPrint16", "strconv.isNotPrint16", "strconv.isPrint32", "strconv.isNotPrint32", "strconv.isGraphic", "strconv.ErrSyntax", "strconv.ErrRange", "internal/strconv.uint64pow10", "math/bits.deBruijn32tab", "math/bits.deBruijn64tab"], apart := false, laid := [("math/bits.deBruijn32tab", laid_math_bits_deBruijn32tab), ("math/bits.deBruijn64tab", laid_math_bits_deBruijn64tab), ("io.EOF", laid_io_EOF), ("unicode.properties", laid_unicode_properties)] }
def FnDefineArgsSaid : Prop := fnDefineArgsRow.holds Tryz.pinned (OpenSpec.ofChange fnDefineArgsSpec)

/-- ITS FALSE NEIGHBOUR: 'it returns false'. Refute it at one input. -/
def fnDefineArgsWrong : ChangeSpec := { name := "fnDefineArgs", fn := fun _ => fun
  | [d1, d2, d3, d4, d5] => { results := [.lit (.bool false)], args := [d1, d2, d3, d4, d5] }
  | _ => none }
def FnDefineArgsWrongFalsely : Prop := fnDefineArgsRow.holds Tryz.pinned (OpenSpec.ofChange fnDefineArgsWrong)

/-- 'laws.FnMacro': WHATEVER THE INPUT: true; the input reads as it did. -/
def fnMacroSpec : ChangeSpec := { name := "fnMacro", fn := fun _ => fun
  | [d1, d2, d3] => { results := [.lit (.bool true)], args := [d1, d2, d3] }
  | _ => none }
def fnMacroRow : OpenClaim := { program := "ytblgoonejbjlkaagreatdoor", sum := "c970d73d5850b68698797de7c5b8a449069905191f700bc8678190b04b97b976", func := "loop.example/pub-g01461/laws.FnMacro", spec := "fnMacro", inPlace := ["internal/bytealg.IndexByteString"], unfollowed := true, recurses := true, named := ["unicode.properties", "unicode.Letter", "unicode.Digit", "io.EOF", "unicode/utf8.first", "unicode/utf8.acceptRanges", "bytes.ErrTooLarge", "strings.asciiSpace", "unicode.White_Space", "strconv.isPrint16", "strconv.isNotPrint16", "strconv.isPrint32", "strconv.isNotPrint32", "strconv.isGraphic", "strconv.ErrSyntax", "strconv.ErrRange", "internal/strconv.uint64pow10", "math/bits.deBruijn32tab", "math/bits.deBruijn64tab"], apart := false, laid := [("math/bits.deBruijn32tab", laid_math_bits_deBruijn32tab), ("math/bits.deBruijn64tab", laid_math_bits_deBruijn64tab), ("io.EOF", laid_io_EOF), ("unicode.properties", laid_unicode_properties)] }
def FnMacroSaid : Prop := fnMacroRow.holds Tryz.pinned (OpenSpec.ofChange fnMacroSpec)

/-- ITS FALSE NEIGHBOUR: 'it returns false'. Refute it at one input. -/
def fnMacroWrong : ChangeSpec := { name := "fnMacro", fn := fun _ => fun
  | [d1, d2, d3] => { results := [.lit (.bool false)], args := [d1, d2, d3] }
  | _ => none }
def FnMacroWrongFalsely : Prop := fnMacroRow.holds Tryz.pinned (OpenSpec.ofChange fnMacroWrong)

/-- 'laws.FnMacroArgs': WHATEVER THE INPUT: true; the input reads as it did. -/
def fnMacroArgsSpec : ChangeSpec := { name := "fnMacroArgs", fn := fun _ => fun
  | [d1, d2, d3] => { results := [.lit (.bool true)], args := [d1, d2, d3] }
  | _ => none }
def fnMacroArgsRow : OpenClaim := { program := "ytblgoonejbjlkaagreatdoor", sum := "c970d73d5850b68698797de7c5b8a449069905191f700bc8678190b04b97b976", func := "loop.example/pub-g01461/laws.FnMacroArgs", spec := "fnMacroArgs", inPlace := ["internal/bytealg.IndexByteString"], unfollowed := true, recurses := true, named := ["unicode.properties", "unicode.Letter", "unicode.Digit", "io.EOF", "unicode/utf8.first", "unicode/utf8.acceptRanges", "bytes.ErrTooLarge", "strings.asciiSpace", "unicode.White_Space", "strconv.isPrint16", "strconv.isNotPrint16", "strconv.isPrint32", "strconv.isNotPrint32", "strconv.isGraphic", "strconv.ErrSyntax", "strconv.ErrRange", "internal/strconv.uint64pow10", "math/bits.deBruijn32tab", "math/bits.deBruijn64tab"], apart := false, laid := [("math/bits.deBruijn32tab", laid_math_bits_deBruijn32tab), ("math/bits.deBruijn64tab", laid_math_bits_deBruijn64tab), ("io.EOF", laid_io_EOF), ("unicode.properties", laid_unicode_properties)] }
def FnMacroArgsSaid : Prop := fnMacroArgsRow.holds Tryz.pinned (OpenSpec.ofChange fnMacroArgsSpec)

/-- ITS FALSE NEIGHBOUR: 'it returns false'. Refute it at one input. -/
def fnMacroArgsWrong : ChangeSpec := { name := "fnMacroArgs", fn := fun _ => fun
  | [d1, d2, d3] => { results := [.lit (.bool false)], args := [d1, d2, d3] }
  | _ => none }
def FnMacroArgsWrongFalsely : Prop := fnMacroArgsRow.holds Tryz.pinned (OpenSpec.ofChange fnMacroArgsWrong)

/-- 'laws.FnMacroNone': WHATEVER THE INPUT: true; the input reads as it did. -/
def fnMacroNoneSpec : ChangeSpec := { name := "fnMacroNone", fn := fun _ => fun
  | [d1, d2, d3] => { results := [.lit (.bool true)], args := [d1, d2, d3] }
  | _ => none }
def fnMacroNoneRow : OpenClaim := { program := "ytblgoonejbjlkaagreatdoor", sum := "c970d73d5850b68698797de7c5b8a449069905191f700bc8678190b04b97b976", func := "loop.example/pub-g01461/laws.FnMacroNone", spec := "fnMacroNone", inPlace := ["internal/bytealg.IndexByteString"], unfollowed := true, recurses := true, named := ["unicode.properties", "unicode.Letter", "unicode.Digit", "io.EOF", "unicode/utf8.first", "unicode/utf8.acceptRanges", "bytes.ErrTooLarge", "strings.asciiSpace", "unicode.White_Space", "strconv.isPrint16", "strconv.isNotPrint16", "strconv.isPrint32", "strconv.isNotPrint32", "strconv.isGraphic", "strconv.ErrSyntax", "strconv.ErrRange", "internal/strconv.uint64pow10", "math/bits.deBruijn32tab", "math/bits.deBruijn64tab"], apart := false, laid := [("math/bits.deBruijn32tab", laid_math_bits_deBruijn32tab), ("math/bits.deBruijn64tab", laid_math_bits_deBruijn64tab), ("io.EOF", laid_io_EOF), ("unicode.properties", laid_unicode_properties)] }
def FnMacroNoneSaid : Prop := fnMacroNoneRow.holds Tryz.pinned (OpenSpec.ofChange fnMacroNoneSpec)

/-- ITS FALSE NEIGHBOUR: 'it returns false'. Refute it at one input. -/
def fnMacroNoneWrong : ChangeSpec := { name := "fnMacroNone", fn := fun _ => fun
  | [d1, d2, d3] => { results := [.lit (.bool false)], args := [d1, d2, d3] }
  | _ => none }
def FnMacroNoneWrongFalsely : Prop := fnMacroNoneRow.holds Tryz.pinned (OpenSpec.ofChange fnMacroNoneWrong)

/-- 'laws.FnDefine': WHATEVER THE INPUT: true; the input reads as it did. -/
def fnDefineSpec : ChangeSpec := { name := "fnDefine", fn := fun _ => fun
  | [d1, d2, d3, d4] => { results := [.lit (.bool true)], args := [d1, d2, d3, d4] }
  | _ => none }
def fnDefineRow : OpenClaim := { program := "ytblgoonejbjlkaagreatdoor", sum := "c970d73d5850b68698797de7c5b8a449069905191f700bc8678190b04b97b976", func := "loop.example/pub-g01461/laws.FnDefine", spec := "fnDefine", inPlace := ["internal/bytealg.IndexByteString"], unfollowed := true, recurses := true, named := ["unicode.properties", "unicode.Letter", "unicode.Digit", "io.EOF", "unicode/utf8.first", "unicode/utf8.acceptRanges", "bytes.ErrTooLarge", "strings.asciiSpace", "unicode.White_Space", "strconv.isPrint16", "strconv.isNotPrint16", "strconv.isPrint32", "strconv.isNotPrint32", "strconv.isGraphic", "strconv.ErrSyntax", "strconv.ErrRange", "internal/strconv.uint64pow10", "math/bits.deBruijn32tab", "math/bits.deBruijn64tab"], apart := false, laid := [("math/bits.deBruijn32tab", laid_math_bits_deBruijn32tab), ("math/bits.deBruijn64tab", laid_math_bits_deBruijn64tab), ("io.EOF", laid_io_EOF), ("unicode.properties", laid_unicode_properties)] }
def FnDefineSaid : Prop := fnDefineRow.holds Tryz.pinned (OpenSpec.ofChange fnDefineSpec)

/-- ITS FALSE NEIGHBOUR: 'it returns false'. Refute it at one input. -/
def fnDefineWrong : ChangeSpec := { name := "fnDefine", fn := fun _ => fun
  | [d1, d2, d3, d4] => { results := [.lit (.bool false)], args := [d1, d2, d3, d4] }
  | _ => none }
def FnDefineWrongFalsely : Prop := fnDefineRow.holds Tryz.pinned (OpenSpec.ofChange fnDefineWrong)

/-- 'laws.FnIfNothing': WHATEVER THE INPUT: true; the input reads as it did. -/
def fnIfNothingSpec : ChangeSpec := { name := "fnIfNothing", fn := fun _ => fun
  | [d1, d2, d3, d4] => { results := [.lit (.bool true)], args := [d1, d2, d3, d4] }
  | _ => none }
def fnIfNothingRow : OpenClaim := { program := "ytblgoonejbjlkaagreatdoor", sum := "c970d73d5850b68698797de7c5b8a449069905191f700bc8678190b04b97b976", func := "loop.example/pub-g01461/laws.FnIfNothing", spec := "fnIfNothing", inPlace := ["internal/bytealg.IndexByteString"], unfollowed := true, recurses := true, named := ["unicode.properties", "unicode.Letter", "unicode.Digit", "io.EOF", "unicode/utf8.first", "unicode/utf8.acceptRanges", "bytes.ErrTooLarge", "strings.asciiSpace", "unicode.White_Space", "strconv.isPrint16", "strconv.isNotPrint16", "strconv.isPrint32", "strconv.isNotPrint32", "strconv.isGraphic", "strconv.ErrSyntax", "strconv.ErrRange", "internal/strconv.uint64pow10", "math/bits.deBruijn32tab", "math/bits.deBruijn64tab"], apart := false, laid := [("math/bits.deBruijn32tab", laid_math_bits_deBruijn32tab), ("math/bits.deBruijn64tab", laid_math_bits_deBruijn64tab), ("io.EOF", laid_io_EOF), ("unicode.properties", laid_unicode_properties)] }
def FnIfNothingSaid : Prop := fnIfNothingRow.holds Tryz.pinned (OpenSpec.ofChange fnIfNothingSpec)

/-- ITS FALSE NEIGHBOUR: 'it returns false'. Refute it at one input. -/
def fnIfNothingWrong : ChangeSpec := { name := "fnIfNothing", fn := fun _ => fun
  | [d1, d2, d3, d4] => { results := [.lit (.bool false)], args := [d1, d2, d3, d4] }
  | _ => none }
def FnIfNothingWrongFalsely : Prop := fnIfNothingRow.holds Tryz.pinned (OpenSpec.ofChange fnIfNothingWrong)

/-- 'laws.FnInclude': WHATEVER THE INPUT: true; the input reads as it did. -/
def fnIncludeSpec : ChangeSpec := { name := "fnInclude", fn := fun _ => fun
  | [d1, d2, d3, d4, d5] => { results := [.lit (.bool true)], args := [d1, d2, d3, d4, d5] }
  | _ => none }
def fnIncludeRow : OpenClaim := { program := "ytblgoonejbjlkaagreatdoor", sum := "c970d73d5850b68698797de7c5b8a449069905191f700bc8678190b04b97b976", func := "loop.example/pub-g01461/laws.FnInclude", spec := "fnInclude", inPlace := ["internal/bytealg.IndexByteString"], unfollowed := true, recurses := true, named := ["unicode.properties", "unicode.Letter", "unicode.Digit", "io.EOF", "unicode/utf8.first", "unicode/utf8.acceptRanges", "bytes.ErrTooLarge", "strings.asciiSpace", "unicode.White_Space", "strconv.isPrint16", "strconv.isNotPrint16", "strconv.isPrint32", "strconv.isNotPrint32", "strconv.isGraphic", "strconv.ErrSyntax", "strconv.ErrRange", "internal/strconv.uint64pow10", "math/bits.deBruijn32tab", "math/bits.deBruijn64tab"], apart := false, laid := [("math/bits.deBruijn32tab", laid_math_bits_deBruijn32tab), ("math/bits.deBruijn64tab", laid_math_bits_deBruijn64tab), ("io.EOF", laid_io_EOF), ("unicode.properties", laid_unicode_properties)] }
def FnIncludeSaid : Prop := fnIncludeRow.holds Tryz.pinned (OpenSpec.ofChange fnIncludeSpec)

/-- ITS FALSE NEIGHBOUR: 'it returns false'. Refute it at one input. -/
def fnIncludeWrong : ChangeSpec := { name := "fnInclude", fn := fun _ => fun
  | [d1, d2, d3, d4, d5] => { results := [.lit (.bool false)], args := [d1, d2, d3, d4, d5] }
  | _ => none }
def FnIncludeWrongFalsely : Prop := fnIncludeRow.holds Tryz.pinned (OpenSpec.ofChange fnIncludeWrong)

/-- 'laws.FnUndef': WHATEVER THE INPUT: true; the input reads as it did. -/
def fnUndefSpec : ChangeSpec := { name := "fnUndef", fn := fun _ => fun
  | [d1, d2, d3, d4] => { results := [.lit (.bool true)], args := [d1, d2, d3, d4] }
  | _ => none }
def fnUndefRow : OpenClaim := { program := "ytblgoonejbjlkaagreatdoor", sum := "c970d73d5850b68698797de7c5b8a449069905191f700bc8678190b04b97b976", func := "loop.example/pub-g01461/laws.FnUndef", spec := "fnUndef", inPlace := ["internal/bytealg.IndexByteString"], unfollowed := true, recurses := true, named := ["unicode.properties", "unicode.Letter", "unicode.Digit", "io.EOF", "unicode/utf8.first", "unicode/utf8.acceptRanges", "bytes.ErrTooLarge", "strings.asciiSpace", "unicode.White_Space", "strconv.isPrint16", "strconv.isNotPrint16", "strconv.isPrint32", "strconv.isNotPrint32", "strconv.isGraphic", "strconv.ErrSyntax", "strconv.ErrRange", "internal/strconv.uint64pow10", "math/bits.deBruijn32tab", "math/bits.deBruijn64tab"], apart := false, laid := [("math/bits.deBruijn32tab", laid_math_bits_deBruijn32tab), ("math/bits.deBruijn64tab", laid_math_bits_deBruijn64tab), ("io.EOF", laid_io_EOF), ("unicode.properties", laid_unicode_properties)] }
def FnUndefSaid : Prop := fnUndefRow.holds Tryz.pinned (OpenSpec.ofChange fnUndefSpec)

/-- ITS FALSE NEIGHBOUR: 'it returns false'. Refute it at one input. -/
def fnUndefWrong : ChangeSpec := { name := "fnUndef", fn := fun _ => fun
  | [d1, d2, d3, d4] => { results := [.lit (.bool false)], args := [d1, d2, d3, d4] }
  | _ => none }
def FnUndefWrongFalsely : Prop := fnUndefRow.holds Tryz.pinned (OpenSpec.ofChange fnUndefWrong)

/- THE SECOND FORM. 'bulk': how many values and letters a reading holds, each counted each time it is reached (what is shared counts as often as it is met; a slice's spare places count too). A statement '..UptoSaid' is the law's where the arguments, and the package variables that the reading takes, are together of bulk at most 1048576: NARROWER than '..Said'. Prove '..Said' where nothing that the law and all that it calls make is longer than what came in: it says more and counts as full. Else prove '..UptoSaid'. A law counts once. -/
mutual
def uptoBulk {H : Type} : DataW H → Nat
  | .lit (.string bytes) => bytes.length + 1
  | .lit _ => 1
  | .nil => 1
  | .ptr d => uptoBulk d + 1
  | .slice elems spare => uptoBulkAll elems + uptoBulkAll spare + 1
  | .agg parts => uptoBulkAll parts + 1
  | .iface _ d => uptoBulk d + 1
  | .map entries => uptoBulkEntries entries + 1
  | .held _ => 1
def uptoBulkAll {H : Type} : List (DataW H) → Nat
  | [] => 0
  | d :: r => uptoBulk d + uptoBulkAll r
def uptoBulkEntries {H : Type} : List (Lit × DataW H) → Nat
  | [] => 0
  | x :: r => uptoBulkEntry x + uptoBulkEntries r
def uptoBulkEntry {H : Type} : Lit × DataW H → Nat
  | (.string bytes, d) => bytes.length + uptoBulk d + 1
  | (_, d) => uptoBulk d + 1
 end
def uptoSmall : (H : Type) → List (DataW H) → Bool := fun _ ds => decide (uptoBulkAll ds ≤ 1048576)
def OpenSpec.upto (s : _root_.Go.ChangeSpec) : _root_.Go.OpenSpec := { _root_.Go.OpenSpec.ofChange s with cond := some uptoSmall }

/-- 'laws.FnDefineArgs', WHERE WHAT IT READS IS OF BULK AT MOST 1048576: true; the input reads as it did. -/
def fnDefineArgsUptoRow : OpenClaim := { program := "ytblgoonejbjlkaagreatdoor", sum := "c970d73d5850b68698797de7c5b8a449069905191f700bc8678190b04b97b976", func := "loop.example/pub-g01461/laws.FnDefineArgs", spec := "fnDefineArgs", inPlace := ["internal/bytealg.IndexByteString"], unfollowed := true, recurses := true, named := ["unicode.properties", "unicode.Letter", "unicode.Digit", "io.EOF", "unicode/utf8.first", "unicode/utf8.acceptRanges", "bytes.ErrTooLarge", "strings.asciiSpace", "unicode.White_Space", "strconv.isPrint16", "strconv.isNotPrint16", "strconv.isPrint32", "strconv.isNotPrint32", "strconv.isGraphic", "strconv.ErrSyntax", "strconv.ErrRange", "internal/strconv.uint64pow10", "math/bits.deBruijn32tab", "math/bits.deBruijn64tab"], apart := false, laid := [("math/bits.deBruijn32tab", laid_math_bits_deBruijn32tab), ("math/bits.deBruijn64tab", laid_math_bits_deBruijn64tab), ("io.EOF", laid_io_EOF), ("unicode.properties", laid_unicode_properties)], narrowed := true }
def FnDefineArgsUptoSaid : Prop := fnDefineArgsUptoRow.holds Tryz.pinned (OpenSpec.upto fnDefineArgsSpec)

/-- 'laws.FnMacro', WHERE WHAT IT READS IS OF BULK AT MOST 1048576: true; the input reads as it did. -/
def fnMacroUptoRow : OpenClaim := { program := "ytblgoonejbjlkaagreatdoor", sum := "c970d73d5850b68698797de7c5b8a449069905191f700bc8678190b04b97b976", func := "loop.example/pub-g01461/laws.FnMacro", spec := "fnMacro", inPlace := ["internal/bytealg.IndexByteString"], unfollowed := true, recurses := true, named := ["unicode.properties", "unicode.Letter", "unicode.Digit", "io.EOF", "unicode/utf8.first", "unicode/utf8.acceptRanges", "bytes.ErrTooLarge", "strings.asciiSpace", "unicode.White_Space", "strconv.isPrint16", "strconv.isNotPrint16", "strconv.isPrint32", "strconv.isNotPrint32", "strconv.isGraphic", "strconv.ErrSyntax", "strconv.ErrRange", "internal/strconv.uint64pow10", "math/bits.deBruijn32tab", "math/bits.deBruijn64tab"], apart := false, laid := [("math/bits.deBruijn32tab", laid_math_bits_deBruijn32tab), ("math/bits.deBruijn64tab", laid_math_bits_deBruijn64tab), ("io.EOF", laid_io_EOF), ("unicode.properties", laid_unicode_properties)], narrowed := true }
def FnMacroUptoSaid : Prop := fnMacroUptoRow.holds Tryz.pinned (OpenSpec.upto fnMacroSpec)

/-- 'laws.FnMacroArgs', WHERE WHAT IT READS IS OF BULK AT MOST 1048576: true; the input reads as it did. -/
def fnMacroArgsUptoRow : OpenClaim := { program := "ytblgoonejbjlkaagreatdoor", sum := "c970d73d5850b68698797de7c5b8a449069905191f700bc8678190b04b97b976", func := "loop.example/pub-g01461/laws.FnMacroArgs", spec := "fnMacroArgs", inPlace := ["internal/bytealg.IndexByteString"], unfollowed := true, recurses := true, named := ["unicode.properties", "unicode.Letter", "unicode.Digit", "io.EOF", "unicode/utf8.first", "unicode/utf8.acceptRanges", "bytes.ErrTooLarge", "strings.asciiSpace", "unicode.White_Space", "strconv.isPrint16", "strconv.isNotPrint16", "strconv.isPrint32", "strconv.isNotPrint32", "strconv.isGraphic", "strconv.ErrSyntax", "strconv.ErrRange", "internal/strconv.uint64pow10", "math/bits.deBruijn32tab", "math/bits.deBruijn64tab"], apart := false, laid := [("math/bits.deBruijn32tab", laid_math_bits_deBruijn32tab), ("math/bits.deBruijn64tab", laid_math_bits_deBruijn64tab), ("io.EOF", laid_io_EOF), ("unicode.properties", laid_unicode_properties)], narrowed := true }
def FnMacroArgsUptoSaid : Prop := fnMacroArgsUptoRow.holds Tryz.pinned (OpenSpec.upto fnMacroArgsSpec)

/-- 'laws.FnMacroNone', WHERE WHAT IT READS IS OF BULK AT MOST 1048576: true; the input reads as it did. -/
def fnMacroNoneUptoRow : OpenClaim := { program := "ytblgoonejbjlkaagreatdoor", sum := "c970d73d5850b68698797de7c5b8a449069905191f700bc8678190b04b97b976", func := "loop.example/pub-g01461/laws.FnMacroNone", spec := "fnMacroNone", inPlace := ["internal/bytealg.IndexByteString"], unfollowed := true, recurses := true, named := ["unicode.properties", "unicode.Letter", "unicode.Digit", "io.EOF", "unicode/utf8.first", "unicode/utf8.acceptRanges", "bytes.ErrTooLarge", "strings.asciiSpace", "unicode.White_Space", "strconv.isPrint16", "strconv.isNotPrint16", "strconv.isPrint32", "strconv.isNotPrint32", "strconv.isGraphic", "strconv.ErrSyntax", "strconv.ErrRange", "internal/strconv.uint64pow10", "math/bits.deBruijn32tab", "math/bits.deBruijn64tab"], apart := false, laid := [("math/bits.deBruijn32tab", laid_math_bits_deBruijn32tab), ("math/bits.deBruijn64tab", laid_math_bits_deBruijn64tab), ("io.EOF", laid_io_EOF), ("unicode.properties", laid_unicode_properties)], narrowed := true }
def FnMacroNoneUptoSaid : Prop := fnMacroNoneUptoRow.holds Tryz.pinned (OpenSpec.upto fnMacroNoneSpec)

/-- 'laws.FnDefine', WHERE WHAT IT READS IS OF BULK AT MOST 1048576: true; the input reads as it did. -/
def fnDefineUptoRow : OpenClaim := { program := "ytblgoonejbjlkaagreatdoor", sum := "c970d73d5850b68698797de7c5b8a449069905191f700bc8678190b04b97b976", func := "loop.example/pub-g01461/laws.FnDefine", spec := "fnDefine", inPlace := ["internal/bytealg.IndexByteString"], unfollowed := true, recurses := true, named := ["unicode.properties", "unicode.Letter", "unicode.Digit", "io.EOF", "unicode/utf8.first", "unicode/utf8.acceptRanges", "bytes.ErrTooLarge", "strings.asciiSpace", "unicode.White_Space", "strconv.isPrint16", "strconv.isNotPrint16", "strconv.isPrint32", "strconv.isNotPrint32", "strconv.isGraphic", "strconv.ErrSyntax", "strconv.ErrRange", "internal/strconv.uint64pow10", "math/bits.deBruijn32tab", "math/bits.deBruijn64tab"], apart := false, laid := [("math/bits.deBruijn32tab", laid_math_bits_deBruijn32tab), ("math/bits.deBruijn64tab", laid_math_bits_deBruijn64tab), ("io.EOF", laid_io_EOF), ("unicode.properties", laid_unicode_properties)], narrowed := true }
def FnDefineUptoSaid : Prop := fnDefineUptoRow.holds Tryz.pinned (OpenSpec.upto fnDefineSpec)

/-- 'laws.FnIfNothing', WHERE WHAT IT READS IS OF BULK AT MOST 1048576: true; the input reads as it did. -/
def fnIfNothingUptoRow : OpenClaim := { program := "ytblgoonejbjlkaagreatdoor", sum := "c970d73d5850b68698797de7c5b8a449069905191f700bc8678190b04b97b976", func := "loop.example/pub-g01461/laws.FnIfNothing", spec := "fnIfNothing", inPlace := ["internal/bytealg.IndexByteString"], unfollowed := true, recurses := true, named := ["unicode.properties", "unicode.Letter", "unicode.Digit", "io.EOF", "unicode/utf8.first", "unicode/utf8.acceptRanges", "bytes.ErrTooLarge", "strings.asciiSpace", "unicode.White_Space", "strconv.isPrint16", "strconv.isNotPrint16", "strconv.isPrint32", "strconv.isNotPrint32", "strconv.isGraphic", "strconv.ErrSyntax", "strconv.ErrRange", "internal/strconv.uint64pow10", "math/bits.deBruijn32tab", "math/bits.deBruijn64tab"], apart := false, laid := [("math/bits.deBruijn32tab", laid_math_bits_deBruijn32tab), ("math/bits.deBruijn64tab", laid_math_bits_deBruijn64tab), ("io.EOF", laid_io_EOF), ("unicode.properties", laid_unicode_properties)], narrowed := true }
def FnIfNothingUptoSaid : Prop := fnIfNothingUptoRow.holds Tryz.pinned (OpenSpec.upto fnIfNothingSpec)

/-- 'laws.FnInclude', WHERE WHAT IT READS IS OF BULK AT MOST 1048576: true; the input reads as it did. -/
def fnIncludeUptoRow : OpenClaim := { program := "ytblgoonejbjlkaagreatdoor", sum := "c970d73d5850b68698797de7c5b8a449069905191f700bc8678190b04b97b976", func := "loop.example/pub-g01461/laws.FnInclude", spec := "fnInclude", inPlace := ["internal/bytealg.IndexByteString"], unfollowed := true, recurses := true, named := ["unicode.properties", "unicode.Letter", "unicode.Digit", "io.EOF", "unicode/utf8.first", "unicode/utf8.acceptRanges", "bytes.ErrTooLarge", "strings.asciiSpace", "unicode.White_Space", "strconv.isPrint16", "strconv.isNotPrint16", "strconv.isPrint32", "strconv.isNotPrint32", "strconv.isGraphic", "strconv.ErrSyntax", "strconv.ErrRange", "internal/strconv.uint64pow10", "math/bits.deBruijn32tab", "math/bits.deBruijn64tab"], apart := false, laid := [("math/bits.deBruijn32tab", laid_math_bits_deBruijn32tab), ("math/bits.deBruijn64tab", laid_math_bits_deBruijn64tab), ("io.EOF", laid_io_EOF), ("unicode.properties", laid_unicode_properties)], narrowed := true }
def FnIncludeUptoSaid : Prop := fnIncludeUptoRow.holds Tryz.pinned (OpenSpec.upto fnIncludeSpec)

/-- 'laws.FnUndef', WHERE WHAT IT READS IS OF BULK AT MOST 1048576: true; the input reads as it did. -/
def fnUndefUptoRow : OpenClaim := { program := "ytblgoonejbjlkaagreatdoor", sum := "c970d73d5850b68698797de7c5b8a449069905191f700bc8678190b04b97b976", func := "loop.example/pub-g01461/laws.FnUndef", spec := "fnUndef", inPlace := ["internal/bytealg.IndexByteString"], unfollowed := true, recurses := true, named := ["unicode.properties", "unicode.Letter", "unicode.Digit", "io.EOF", "unicode/utf8.first", "unicode/utf8.acceptRanges", "bytes.ErrTooLarge", "strings.asciiSpace", "unicode.White_Space", "strconv.isPrint16", "strconv.isNotPrint16", "strconv.isPrint32", "strconv.isNotPrint32", "strconv.isGraphic", "strconv.ErrSyntax", "strconv.ErrRange", "internal/strconv.uint64pow10", "math/bits.deBruijn32tab", "math/bits.deBruijn64tab"], apart := false, laid := [("math/bits.deBruijn32tab", laid_math_bits_deBruijn32tab), ("math/bits.deBruijn64tab", laid_math_bits_deBruijn64tab), ("io.EOF", laid_io_EOF), ("unicode.properties", laid_unicode_properties)], narrowed := true }
def FnUndefUptoSaid : Prop := fnUndefUptoRow.holds Tryz.pinned (OpenSpec.upto fnUndefSpec)

end Rows
end Go.Proofs.YtblgoonejbjlkaaGreatDoor
