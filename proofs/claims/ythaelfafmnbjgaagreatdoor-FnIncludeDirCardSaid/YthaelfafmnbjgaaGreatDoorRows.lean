/-
  NARROWER THAN 'FOR EVERY INPUT', by the rows' own cells (each row's printed sentence says how): FnDefineFirst: laid · FnDefineOne: laid · FnIf: laid · FnIncludeDir: laid · FnWrongArgs: laid · FnWrongEnd: laid · FnWrongFile: laid · FnWrongPlace: laid · FnWrongTwice: laid.
  DERIVED. THE GIVEN ROWS OF THIS SEAT. 9 by the template 'for every input the law returns true; each argument reads behind the call as it read before'; 0 by the template 'total and deterministic' (their statements: YthaelfafmnbjgaaGreatDoorTotals.lean).
  GIVEN WITH THE SEED: the statements are not yours to turn. If you find one false, say at which input.
  Laid BY PROGRAM, IN A SANDBOX (cutbox-rows.mjs): the forced cells as the released guide's own fill.sh prints them over the translation 913463a3d303ea84… (all of the seat's roots in one cut). By AI agents, Wed Nov 11 2026. No macro, syntax, notation, axiom, sorry.
-/
import Derived.Test.YthaelfafmnbjgaaGreatDoorChecked
import GoSem.PinnedTables
import GoSem.Claim
import GoSem.ClaimJoined
import GoSem.ClaimMapViews
import Derived.JoinedTies
import Derived.KernelRfl
namespace Go.Proofs.YthaelfafmnbjgaaGreatDoor
/- THE CELL 'sum', in the pinned program and in every row, IS THE sha256 OF THE DUMP (.gsa) THAT YthaelfafmnbjgaaGreatDoorProg.lean LOADS. Nothing in Lean hashes anything: it is a label: what it is worth is what the hold of that sum in a sandbox is worth. -/
noncomputable def Tryz.pinned : Pinned := { name := "ythaelfafmnbjgaagreatdoor", sum := "913463a3d303ea84bebf7a968782cde58e0701f6b63e44d3ff9cfff4be4c58e5", checked := Tryz.checked }
namespace Rows
def none {H : Type} : Left H := { results := [], args := [] }

/- WHAT THE LISTED PACKAGE-LEVEL VARIABLES READ AS WHEN THE CALL BEGINS. Each datum BY PROGRAM (the guide's laid-datum.mjs) off the statement by which the dump's own 'gosem.cut.vars' lays the variable. In a bare row this is a premise. The card (YthaelfafmnbjgaaGreatDoorCards.lean) ties it to the program's text. -/
def laid_math_bits_deBruijn32tab {H : Type} : DataW H := .agg [.lit (.int .u8 0), .lit (.int .u8 1), .lit (.int .u8 28), .lit (.int .u8 2), .lit (.int .u8 29), .lit (.int .u8 14), .lit (.int .u8 24), .lit (.int .u8 3), .lit (.int .u8 30), .lit (.int .u8 22), .lit (.int .u8 20), .lit (.int .u8 15), .lit (.int .u8 25), .lit (.int .u8 17), .lit (.int .u8 4), .lit (.int .u8 8), .lit (.int .u8 31), .lit (.int .u8 27), .lit (.int .u8 13), .lit (.int .u8 23), .lit (.int .u8 21), .lit (.int .u8 19), .lit (.int .u8 16), .lit (.int .u8 7), .lit (.int .u8 26), .lit (.int .u8 12), .lit (.int .u8 18), .lit (.int .u8 6), .lit (.int .u8 11), .lit (.int .u8 5), .lit (.int .u8 10), .lit (.int .u8 9)]
def laid_math_bits_deBruijn64tab {H : Type} : DataW H := .agg [.lit (.int .u8 0), .lit (.int .u8 1), .lit (.int .u8 56), .lit (.int .u8 2), .lit (.int .u8 57), .lit (.int .u8 49), .lit (.int .u8 28), .lit (.int .u8 3), .lit (.int .u8 61), .lit (.int .u8 58), .lit (.int .u8 42), .lit (.int .u8 50), .lit (.int .u8 38), .lit (.int .u8 29), .lit (.int .u8 17), .lit (.int .u8 4), .lit (.int .u8 62), .lit (.int .u8 47), .lit (.int .u8 59), .lit (.int .u8 36), .lit (.int .u8 45), .lit (.int .u8 43), .lit (.int .u8 51), .lit (.int .u8 22), .lit (.int .u8 53), .lit (.int .u8 39), .lit (.int .u8 33), .lit (.int .u8 30), .lit (.int .u8 24), .lit (.int .u8 18), .lit (.int .u8 12), .lit (.int .u8 5), .lit (.int .u8 63), .lit (.int .u8 55), .lit (.int .u8 48), .lit (.int .u8 27), .lit (.int .u8 60), .lit (.int .u8 41), .lit (.int .u8 37), .lit (.int .u8 16), .lit (.int .u8 46), .lit (.int .u8 35), .lit (.int .u8 44), .lit (.int .u8 21), .lit (.int .u8 52), .lit (.int .u8 32), .lit (.int .u8 23), .lit (.int .u8 11), .lit (.int .u8 54), .lit (.int .u8 26), .lit (.int .u8 40), .lit (.int .u8 15), .lit (.int .u8 34), .lit (.int .u8 20), .lit (.int .u8 31), .lit (.int .u8 10), .lit (.int .u8 25), .lit (.int .u8 14), .lit (.int .u8 19), .lit (.int .u8 9), .lit (.int .u8 13), .lit (.int .u8 8), .lit (.int .u8 7), .lit (.int .u8 6)]
def laid_io_EOF {H : Type} : DataW H := .iface "*errors.errorString" (.ptr (.agg [.lit (.string [69, 79, 70])]))
def laid_unicode_properties {H : Type} : DataW H := .agg [.lit (.int .u8 1), .lit (.int .u8 1), .lit (.int .u8 1), .lit (.int .u8 1), .lit (.int .u8 1), .lit (.int .u8 1), .lit (.int .u8 1), .lit (.int .u8 1), .lit (.int .u8 1), .lit (.int .u8 1), .lit (.int .u8 1), .lit (.int .u8 1), .lit (.int .u8 1), .lit (.int .u8 1), .lit (.int .u8 1), .lit (.int .u8 1), .lit (.int .u8 1), .lit (.int .u8 1), .lit (.int .u8 1), .lit (.int .u8 1), .lit (.int .u8 1), .lit (.int .u8 1), .lit (.int .u8 1), .lit (.int .u8 1), .lit (.int .u8 1), .lit (.int .u8 1), .lit (.int .u8 1), .lit (.int .u8 1), .lit (.int .u8 1), .lit (.int .u8 1), .lit (.int .u8 1), .lit (.int .u8 1), .lit (.int .u8 144), .lit (.int .u8 130), .lit (.int .u8 130), .lit (.int .u8 130), .lit (.int .u8 136), .lit (.int .u8 130), .lit (.int .u8 130), .lit (.int .u8 130), .lit (.int .u8 130), .lit (.int .u8 130), .lit (.int .u8 130), .lit (.int .u8 136), .lit (.int .u8 130), .lit (.int .u8 130), .lit (.int .u8 130), .lit (.int .u8 130), .lit (.int .u8 132), .lit (.int .u8 132), .lit (.int .u8 132), .lit (.int .u8 132), .lit (.int .u8 132), .lit (.int .u8 132), .lit (.int .u8 132), .lit (.int .u8 132), .lit (.int .u8 132), .lit (.int .u8 132), .lit (.int .u8 130), .lit (.int .u8 130), .lit (.int .u8 136), .lit (.int .u8 136), .lit (.int .u8 136), .lit (.int .u8 130), .lit (.int .u8 130), .lit (.int .u8 160), .lit (.int .u8 160), .lit (.int .u8 160), .lit (.int .u8 160), .lit (.int .u8 160), .lit (.int .u8 160), .lit (.int .u8 160), .lit (.int .u8 160), .lit (.int .u8 160), .lit (.int .u8 160), .lit (.int .u8 160), .lit (.int .u8 160), .lit (.int .u8 160), .lit (.int .u8 160), .lit (.int .u8 160), .lit (.int .u8 160), .lit (.int .u8 160), .lit (.int .u8 160), .lit (.int .u8 160), .lit (.int .u8 160), .lit (.int .u8 160), .lit (.int .u8 160), .lit (.int .u8 160), .lit (.int .u8 160), .lit (.int .u8 160), .lit (.int .u8 160), .lit (.int .u8 130), .lit (.int .u8 130), .lit (.int .u8 130), .lit (.int .u8 136), .lit (.int .u8 130), .lit (.int .u8 136), .lit (.int .u8 192), .lit (.int .u8 192), .lit (.int .u8 192), .lit (.int .u8 192), .lit (.int .u8 192), .lit (.int .u8 192), .lit (.int .u8 192), .lit (.int .u8 192), .lit (.int .u8 192), .lit (.int .u8 192), .lit (.int .u8 192), .lit (.int .u8 192), .lit (.int .u8 192), .lit (.int .u8 192), .lit (.int .u8 192), .lit (.int .u8 192), .lit (.int .u8 192), .lit (.int .u8 192), .lit (.int .u8 192), .lit (.int .u8 192), .lit (.int .u8 192), .lit (.int .u8 192), .lit (.int .u8 192), .lit (.int .u8 192), .lit (.int .u8 192), .lit (.int .u8 192), .lit (.int .u8 130), .lit (.int .u8 136), .lit (.int .u8 130), .lit (.int .u8 136), .lit (.int .u8 1), .lit (.int .u8 1), .lit (.int .u8 1), .lit (.int .u8 1), .lit (.int .u8 1), .lit (.int .u8 1), .lit (.int .u8 1), .lit (.int .u8 1), .lit (.int .u8 1), .lit (.int .u8 1), .lit (.int .u8 1), .lit (.int .u8 1), .lit (.int .u8 1), .lit (.int .u8 1), .lit (.int .u8 1), .lit (.int .u8 1), .lit (.int .u8 1), .lit (.int .u8 1), .lit (.int .u8 1), .lit (.int .u8 1), .lit (.int .u8 1), .lit (.int .u8 1), .lit (.int .u8 1), .lit (.int .u8 1), .lit (.int .u8 1), .lit (.int .u8 1), .lit (.int .u8 1), .lit (.int .u8 1), .lit (.int .u8 1), .lit (.int .u8 1), .lit (.int .u8 1), .lit (.int .u8 1), .lit (.int .u8 1), .lit (.int .u8 16), .lit (.int .u8 130), .lit (.int .u8 136), .lit (.int .u8 136), .lit (.int .u8 136), .lit (.int .u8 136), .lit (.int .u8 136), .lit (.int .u8 130), .lit (.int .u8 136), .lit (.int .u8 136), .lit (.int .u8 224), .lit (.int .u8 130), .lit (.int .u8 136), .lit (.int .u8 0), .lit (.int .u8 136), .lit (.int .u8 136), .lit (.int .u8 136), .lit (.int .u8 136), .lit (.int .u8 132), .lit (.int .u8 132), .lit (.int .u8 136), .lit (.int .u8 192), .lit (.int .u8 130), .lit (.int .u8 130), .lit (.int .u8 136), .lit (.int .u8 132), .lit (.int .u8 224), .lit (.int .u8 130), .lit (.int .u8 132), .lit (.int .u8 132), .lit (.int .u8 132), .lit (.int .u8 130), .lit (.int .u8 160), .lit (.int .u8 160), .lit (.int .u8 160), .lit (.int .u8 160), .lit (.int .u8 160), .lit (.int .u8 160), .lit (.int .u8 160), .lit (.int .u8 160), .lit (.int .u8 160), .lit (.int .u8 160), .lit (.int .u8 160), .lit (.int .u8 160), .lit (.int .u8 160), .lit (.int .u8 160), .lit (.int .u8 160), .lit (.int .u8 160), .lit (.int .u8 160), .lit (.int .u8 160), .lit (.int .u8 160), .lit (.int .u8 160), .lit (.int .u8 160), .lit (.int .u8 160), .lit (.int .u8 160), .lit (.int .u8 136), .lit (.int .u8 160), .lit (.int .u8 160), .lit (.int .u8 160), .lit (.int .u8 160), .lit (.int .u8 160), .lit (.int .u8 160), .lit (.int .u8 160), .lit (.int .u8 192), .lit (.int .u8 192), .lit (.int .u8 192), .lit (.int .u8 192), .lit (.int .u8 192), .lit (.int .u8 192), .lit (.int .u8 192), .lit (.int .u8 192), .lit (.int .u8 192), .lit (.int .u8 192), .lit (.int .u8 192), .lit (.int .u8 192), .lit (.int .u8 192), .lit (.int .u8 192), .lit (.int .u8 192), .lit (.int .u8 192), .lit (.int .u8 192), .lit (.int .u8 192), .lit (.int .u8 192), .lit (.int .u8 192), .lit (.int .u8 192), .lit (.int .u8 192), .lit (.int .u8 192), .lit (.int .u8 192), .lit (.int .u8 136), .lit (.int .u8 192), .lit (.int .u8 192), .lit (.int .u8 192), .lit (.int .u8 192), .lit (.int .u8 192), .lit (.int .u8 192), .lit (.int .u8 192), .lit (.int .u8 192)]
/-- One of Go's own tables, pinned by name: the form's constant. -/
def laid_unicode_utf8_first : DataW Unit := Go.Pinned.utf8First

/-- 'laws.FnDefineFirst': WHATEVER THE INPUT: true; the input reads as it did. -/
def fnDefineFirstSpec : ChangeSpec := { name := "fnDefineFirst", fn := fun _ => fun
  | [d1, d2, d3] => { results := [.lit (.bool true)], args := [d1, d2, d3] }
  | _ => none }
def fnDefineFirstRow : OpenClaim := { program := "ythaelfafmnbjgaagreatdoor", sum := "913463a3d303ea84bebf7a968782cde58e0701f6b63e44d3ff9cfff4be4c58e5", func := "loop.example/pub-g01461/laws.FnDefineFirst", spec := "fnDefineFirst", inPlace := ["internal/bytealg.IndexByteString"], unfollowed := true, recurses := true, named := ["unicode.properties", "unicode.Letter", "unicode.Digit", "io.EOF", "unicode/utf8.first", "unicode/utf8.acceptRanges", "bytes.ErrTooLarge", "strings.asciiSpace", "unicode.White_Space", "strconv.isPrint16", "strconv.isNotPrint16", "strconv.isPrint32", "strconv.isNotPrint32", "strconv.isGraphic", "strconv.ErrSyntax", "strconv.ErrRange", "internal/strconv.uint64pow10", "math/bits.deBruijn32tab", "math/bits.deBruijn64tab"], apart := false, laid := [("math/bits.deBruijn32tab", laid_math_bits_deBruijn32tab), ("math/bits.deBruijn64tab", laid_math_bits_deBruijn64tab), ("io.EOF", laid_io_EOF), ("unicode.properties", laid_unicode_properties), ("unicode/utf8.first", laid_unicode_utf8_first)] }
def FnDefineFirstSaid : Prop := fnDefineFirstRow.holds Tryz.pinned (OpenSpec.ofChange fnDefineFirstSpec)

/-- ITS FALSE NEIGHBOUR: 'it returns false'. Refute it at one input. -/
def fnDefineFirstWrong : ChangeSpec := { name := "fnDefineFirst", fn := fun _ => fun
  | [d1, d2, d3] => { results := [.lit (.bool false)], args := [d1, d2, d3] }
  | _ => none }
def FnDefineFirstWrongFalsely : Prop := fnDefineFirstRow.holds Tryz.pinned (OpenSpec.ofChange fnDefineFirstWrong)

/-- 'laws.FnDefineOne': WHATEVER THE INPUT: true; the input reads as it did. -/
def fnDefineOneSpec : ChangeSpec := { name := "fnDefineOne", fn := fun _ => fun
  | [d1, d2] => { results := [.lit (.bool true)], args := [d1, d2] }
  | _ => none }
def fnDefineOneRow : OpenClaim := { program := "ythaelfafmnbjgaagreatdoor", sum := "913463a3d303ea84bebf7a968782cde58e0701f6b63e44d3ff9cfff4be4c58e5", func := "loop.example/pub-g01461/laws.FnDefineOne", spec := "fnDefineOne", inPlace := ["internal/bytealg.IndexByteString"], unfollowed := true, recurses := true, named := ["unicode.properties", "unicode.Letter", "unicode.Digit", "io.EOF", "unicode/utf8.first", "unicode/utf8.acceptRanges", "bytes.ErrTooLarge", "strings.asciiSpace", "unicode.White_Space", "strconv.isPrint16", "strconv.isNotPrint16", "strconv.isPrint32", "strconv.isNotPrint32", "strconv.isGraphic", "strconv.ErrSyntax", "strconv.ErrRange", "internal/strconv.uint64pow10", "math/bits.deBruijn32tab", "math/bits.deBruijn64tab"], apart := false, laid := [("math/bits.deBruijn32tab", laid_math_bits_deBruijn32tab), ("math/bits.deBruijn64tab", laid_math_bits_deBruijn64tab), ("io.EOF", laid_io_EOF), ("unicode.properties", laid_unicode_properties), ("unicode/utf8.first", laid_unicode_utf8_first)] }
def FnDefineOneSaid : Prop := fnDefineOneRow.holds Tryz.pinned (OpenSpec.ofChange fnDefineOneSpec)

/-- ITS FALSE NEIGHBOUR: 'it returns false'. Refute it at one input. -/
def fnDefineOneWrong : ChangeSpec := { name := "fnDefineOne", fn := fun _ => fun
  | [d1, d2] => { results := [.lit (.bool false)], args := [d1, d2] }
  | _ => none }
def FnDefineOneWrongFalsely : Prop := fnDefineOneRow.holds Tryz.pinned (OpenSpec.ofChange fnDefineOneWrong)

/-- 'laws.FnIf': WHATEVER THE INPUT: true; the input reads as it did. -/
def fnIfSpec : ChangeSpec := { name := "fnIf", fn := fun _ => fun
  | [d1, d2, d3, d4, d5, d6] => { results := [.lit (.bool true)], args := [d1, d2, d3, d4, d5, d6] }
  | _ => none }
def fnIfRow : OpenClaim := { program := "ythaelfafmnbjgaagreatdoor", sum := "913463a3d303ea84bebf7a968782cde58e0701f6b63e44d3ff9cfff4be4c58e5", func := "loop.example/pub-g01461/laws.FnIf", spec := "fnIf", inPlace := ["internal/bytealg.IndexByteString"], unfollowed := true, recurses := true, named := ["unicode.properties", "unicode.Letter", "unicode.Digit", "io.EOF", "unicode/utf8.first", "unicode/utf8.acceptRanges", "bytes.ErrTooLarge", "strings.asciiSpace", "unicode.White_Space", "strconv.isPrint16", "strconv.isNotPrint16", "strconv.isPrint32", "strconv.isNotPrint32", "strconv.isGraphic", "strconv.ErrSyntax", "strconv.ErrRange", "internal/strconv.uint64pow10", "math/bits.deBruijn32tab", "math/bits.deBruijn64tab"], apart := false, laid := [("math/bits.deBruijn32tab", laid_math_bits_deBruijn32tab), ("math/bits.deBruijn64tab", laid_math_bits_deBruijn64tab), ("io.EOF", laid_io_EOF), ("unicode.properties", laid_unicode_properties), ("unicode/utf8.first", laid_unicode_utf8_first)] }
def FnIfSaid : Prop := fnIfRow.holds Tryz.pinned (OpenSpec.ofChange fnIfSpec)

/-- ITS FALSE NEIGHBOUR: 'it returns false'. Refute it at one input. -/
def fnIfWrong : ChangeSpec := { name := "fnIf", fn := fun _ => fun
  | [d1, d2, d3, d4, d5, d6] => { results := [.lit (.bool false)], args := [d1, d2, d3, d4, d5, d6] }
  | _ => none }
def FnIfWrongFalsely : Prop := fnIfRow.holds Tryz.pinned (OpenSpec.ofChange fnIfWrong)

/-- 'laws.FnIncludeDir': WHATEVER THE INPUT: true; the input reads as it did. -/
def fnIncludeDirSpec : ChangeSpec := { name := "fnIncludeDir", fn := fun _ => fun
  | [d1, d2, d3] => { results := [.lit (.bool true)], args := [d1, d2, d3] }
  | _ => none }
def fnIncludeDirRow : OpenClaim := { program := "ythaelfafmnbjgaagreatdoor", sum := "913463a3d303ea84bebf7a968782cde58e0701f6b63e44d3ff9cfff4be4c58e5", func := "loop.example/pub-g01461/laws.FnIncludeDir", spec := "fnIncludeDir", inPlace := ["internal/bytealg.IndexByteString"], unfollowed := true, recurses := true, named := ["unicode.properties", "unicode.Letter", "unicode.Digit", "io.EOF", "unicode/utf8.first", "unicode/utf8.acceptRanges", "bytes.ErrTooLarge", "strings.asciiSpace", "unicode.White_Space", "strconv.isPrint16", "strconv.isNotPrint16", "strconv.isPrint32", "strconv.isNotPrint32", "strconv.isGraphic", "strconv.ErrSyntax", "strconv.ErrRange", "internal/strconv.uint64pow10", "math/bits.deBruijn32tab", "math/bits.deBruijn64tab"], apart := false, laid := [("math/bits.deBruijn32tab", laid_math_bits_deBruijn32tab), ("math/bits.deBruijn64tab", laid_math_bits_deBruijn64tab), ("io.EOF", laid_io_EOF), ("unicode.properties", laid_unicode_properties), ("unicode/utf8.first", laid_unicode_utf8_first)] }
def FnIncludeDirSaid : Prop := fnIncludeDirRow.holds Tryz.pinned (OpenSpec.ofChange fnIncludeDirSpec)

/-- ITS FALSE NEIGHBOUR: 'it returns false'. Refute it at one input. -/
def fnIncludeDirWrong : ChangeSpec := { name := "fnIncludeDir", fn := fun _ => fun
  | [d1, d2, d3] => { results := [.lit (.bool false)], args := [d1, d2, d3] }
  | _ => none }
def FnIncludeDirWrongFalsely : Prop := fnIncludeDirRow.holds Tryz.pinned (OpenSpec.ofChange fnIncludeDirWrong)

/-- 'laws.FnWrongArgs': WHATEVER THE INPUT: true; the input reads as it did. -/
def fnWrongArgsSpec : ChangeSpec := { name := "fnWrongArgs", fn := fun _ => fun
  | [d1, d2, d3] => { results := [.lit (.bool true)], args := [d1, d2, d3] }
  | _ => none }
def fnWrongArgsRow : OpenClaim := { program := "ythaelfafmnbjgaagreatdoor", sum := "913463a3d303ea84bebf7a968782cde58e0701f6b63e44d3ff9cfff4be4c58e5", func := "loop.example/pub-g01461/laws.FnWrongArgs", spec := "fnWrongArgs", inPlace := ["internal/bytealg.IndexByteString"], unfollowed := true, recurses := true, named := ["unicode.properties", "unicode.Letter", "unicode.Digit", "io.EOF", "unicode/utf8.first", "unicode/utf8.acceptRanges", "bytes.ErrTooLarge", "strings.asciiSpace", "unicode.White_Space", "strconv.isPrint16", "strconv.isNotPrint16", "strconv.isPrint32", "strconv.isNotPrint32", "strconv.isGraphic", "strconv.ErrSyntax", "strconv.ErrRange", "internal/strconv.uint64pow10", "math/bits.deBruijn32tab", "math/bits.deBruijn64tab"], apart := false, laid := [("math/bits.deBruijn32tab", laid_math_bits_deBruijn32tab), ("math/bits.deBruijn64tab", laid_math_bits_deBruijn64tab), ("io.EOF", laid_io_EOF), ("unicode.properties", laid_unicode_properties), ("unicode/utf8.first", laid_unicode_utf8_first)] }
def FnWrongArgsSaid : Prop := fnWrongArgsRow.holds Tryz.pinned (OpenSpec.ofChange fnWrongArgsSpec)

/-- ITS FALSE NEIGHBOUR: 'it returns false'. Refute it at one input. -/
def fnWrongArgsWrong : ChangeSpec := { name := "fnWrongArgs", fn := fun _ => fun
  | [d1, d2, d3] => { results := [.lit (.bool false)], args := [d1, d2, d3] }
  | _ => none }
def FnWrongArgsWrongFalsely : Prop := fnWrongArgsRow.holds Tryz.pinned (OpenSpec.ofChange fnWrongArgsWrong)

/-- 'laws.FnWrongEnd': WHATEVER THE INPUT: true; the input reads as it did. -/
def fnWrongEndSpec : ChangeSpec := { name := "fnWrongEnd", fn := fun _ => fun
  | [d1, d2, d3, d4] => { results := [.lit (.bool true)], args := [d1, d2, d3, d4] }
  | _ => none }
def fnWrongEndRow : OpenClaim := { program := "ythaelfafmnbjgaagreatdoor", sum := "913463a3d303ea84bebf7a968782cde58e0701f6b63e44d3ff9cfff4be4c58e5", func := "loop.example/pub-g01461/laws.FnWrongEnd", spec := "fnWrongEnd", inPlace := ["internal/bytealg.IndexByteString"], unfollowed := true, recurses := true, named := ["unicode.properties", "unicode.Letter", "unicode.Digit", "io.EOF", "unicode/utf8.first", "unicode/utf8.acceptRanges", "bytes.ErrTooLarge", "strings.asciiSpace", "unicode.White_Space", "strconv.isPrint16", "strconv.isNotPrint16", "strconv.isPrint32", "strconv.isNotPrint32", "strconv.isGraphic", "strconv.ErrSyntax", "strconv.ErrRange", "internal/strconv.uint64pow10", "math/bits.deBruijn32tab", "math/bits.deBruijn64tab"], apart := false, laid := [("math/bits.deBruijn32tab", laid_math_bits_deBruijn32tab), ("math/bits.deBruijn64tab", laid_math_bits_deBruijn64tab), ("io.EOF", laid_io_EOF), ("unicode.properties", laid_unicode_properties), ("unicode/utf8.first", laid_unicode_utf8_first)] }
def FnWrongEndSaid : Prop := fnWrongEndRow.holds Tryz.pinned (OpenSpec.ofChange fnWrongEndSpec)

/-- ITS FALSE NEIGHBOUR: 'it returns false'. Refute it at one input. -/
def fnWrongEndWrong : ChangeSpec := { name := "fnWrongEnd", fn := fun _ => fun
  | [d1, d2, d3, d4] => { results := [.lit (.bool false)], args := [d1, d2, d3, d4] }
  | _ => none }
def FnWrongEndWrongFalsely : Prop := fnWrongEndRow.holds Tryz.pinned (OpenSpec.ofChange fnWrongEndWrong)

/-- 'laws.FnWrongFile': WHATEVER THE INPUT: true; the input reads as it did. -/
def fnWrongFileSpec : ChangeSpec := { name := "fnWrongFile", fn := fun _ => fun
  | [d1, d2, d3] => { results := [.lit (.bool true)], args := [d1, d2, d3] }
  | _ => none }
def fnWrongFileRow : OpenClaim := { program := "ythaelfafmnbjgaagreatdoor", sum := "913463a3d303ea84bebf7a968782cde58e0701f6b63e44d3ff9cfff4be4c58e5", func := "loop.example/pub-g01461/laws.FnWrongFile", spec := "fnWrongFile", inPlace := ["internal/bytealg.IndexByteString"], unfollowed := true, recurses := true, named := ["unicode.properties", "unicode.Letter", "unicode.Digit", "io.EOF", "unicode/utf8.first", "unicode/utf8.acceptRanges", "bytes.ErrTooLarge", "strings.asciiSpace", "unicode.White_Space", "strconv.isPrint16", "strconv.isNotPrint16", "strconv.isPrint32", "strconv.isNotPrint32", "strconv.isGraphic", "strconv.ErrSyntax", "strconv.ErrRange", "internal/strconv.uint64pow10", "math/bits.deBruijn32tab", "math/bits.deBruijn64tab"], apart := false, laid := [("math/bits.deBruijn32tab", laid_math_bits_deBruijn32tab), ("math/bits.deBruijn64tab", laid_math_bits_deBruijn64tab), ("io.EOF", laid_io_EOF), ("unicode.properties", laid_unicode_properties), ("unicode/utf8.first", laid_unicode_utf8_first)] }
def FnWrongFileSaid : Prop := fnWrongFileRow.holds Tryz.pinned (OpenSpec.ofChange fnWrongFileSpec)

/-- ITS FALSE NEIGHBOUR: 'it returns false'. Refute it at one input. -/
def fnWrongFileWrong : ChangeSpec := { name := "fnWrongFile", fn := fun _ => fun
  | [d1, d2, d3] => { results := [.lit (.bool false)], args := [d1, d2, d3] }
  | _ => none }
def FnWrongFileWrongFalsely : Prop := fnWrongFileRow.holds Tryz.pinned (OpenSpec.ofChange fnWrongFileWrong)

/-- 'laws.FnWrongPlace': WHATEVER THE INPUT: true; the input reads as it did. -/
def fnWrongPlaceSpec : ChangeSpec := { name := "fnWrongPlace", fn := fun _ => fun
  | [d] => { results := [.lit (.bool true)], args := [d] }
  | _ => none }
def fnWrongPlaceRow : OpenClaim := { program := "ythaelfafmnbjgaagreatdoor", sum := "913463a3d303ea84bebf7a968782cde58e0701f6b63e44d3ff9cfff4be4c58e5", func := "loop.example/pub-g01461/laws.FnWrongPlace", spec := "fnWrongPlace", inPlace := ["internal/bytealg.IndexByteString"], unfollowed := true, recurses := true, named := ["unicode.properties", "unicode.Letter", "unicode.Digit", "io.EOF", "unicode/utf8.first", "unicode/utf8.acceptRanges", "bytes.ErrTooLarge", "strings.asciiSpace", "unicode.White_Space", "strconv.isPrint16", "strconv.isNotPrint16", "strconv.isPrint32", "strconv.isNotPrint32", "strconv.isGraphic", "strconv.ErrSyntax", "strconv.ErrRange", "internal/strconv.uint64pow10", "math/bits.deBruijn32tab", "math/bits.deBruijn64tab"], apart := false, laid := [("math/bits.deBruijn32tab", laid_math_bits_deBruijn32tab), ("math/bits.deBruijn64tab", laid_math_bits_deBruijn64tab), ("io.EOF", laid_io_EOF), ("unicode.properties", laid_unicode_properties), ("unicode/utf8.first", laid_unicode_utf8_first)] }
def FnWrongPlaceSaid : Prop := fnWrongPlaceRow.holds Tryz.pinned (OpenSpec.ofChange fnWrongPlaceSpec)

/-- ITS FALSE NEIGHBOUR: 'it returns false'. Refute it at one input. -/
def fnWrongPlaceWrong : ChangeSpec := { name := "fnWrongPlace", fn := fun _ => fun
  | [d] => { results := [.lit (.bool false)], args := [d] }
  | _ => none }
def FnWrongPlaceWrongFalsely : Prop := fnWrongPlaceRow.holds Tryz.pinned (OpenSpec.ofChange fnWrongPlaceWrong)

/-- 'laws.FnWrongTwice': WHATEVER THE INPUT: true; the input reads as it did. -/
def fnWrongTwiceSpec : ChangeSpec := { name := "fnWrongTwice", fn := fun _ => fun
  | [d1, d2, d3] => { results := [.lit (.bool true)], args := [d1, d2, d3] }
  | _ => none }
def fnWrongTwiceRow : OpenClaim := { program := "ythaelfafmnbjgaagreatdoor", sum := "913463a3d303ea84bebf7a968782cde58e0701f6b63e44d3ff9cfff4be4c58e5", func := "loop.example/pub-g01461/laws.FnWrongTwice", spec := "fnWrongTwice", inPlace := ["internal/bytealg.IndexByteString"], unfollowed := true, recurses := true, named := ["unicode.properties", "unicode.Letter", "unicode.Digit", "io.EOF", "unicode/utf8.first", "unicode/utf8.acceptRanges", "bytes.ErrTooLarge", "strings.asciiSpace", "unicode.White_Space", "strconv.isPrint16", "strconv.isNotPrint16", "strconv.isPrint32", "strconv.isNotPrint32", "strconv.isGraphic", "strconv.ErrSyntax", "strconv.ErrRange", "internal/strconv.uint64pow10", "math/bits.deBruijn32tab", "math/bits.deBruijn64tab"], apart := false, laid := [("math/bits.deBruijn32tab", laid_math_bits_deBruijn32tab), ("math/bits.deBruijn64tab", laid_math_bits_deBruijn64tab), ("io.EOF", laid_io_EOF), ("unicode.properties", laid_unicode_properties), ("unicode/utf8.first", laid_unicode_utf8_first)] }
def FnWrongTwiceSaid : Prop := fnWrongTwiceRow.holds Tryz.pinned (OpenSpec.ofChange fnWrongTwiceSpec)

/-- ITS FALSE NEIGHBOUR: 'it returns false'. Refute it at one input. -/
def fnWrongTwiceWrong : ChangeSpec := { name := "fnWrongTwice", fn := fun _ => fun
  | [d1, d2, d3] => { results := [.lit (.bool false)], args := [d1, d2, d3] }
  | _ => none }
def FnWrongTwiceWrongFalsely : Prop := fnWrongTwiceRow.holds Tryz.pinned (OpenSpec.ofChange fnWrongTwiceWrong)

/- THE SECOND FORM. 'bulk': how many values and letters a reading holds, each counted each time it is reached (what is shared counts as often as it is met; a slice's spare places count too). A statement '..UptoSaid' is the law's where the arguments, and the package variables that the reading takes, are together of bulk at most 1048576: NARROWER than '..Said'. Prove '..Said' where nothing that the law and all that it calls make is longer than what came in: it says more and counts as full. Else prove '..UptoSaid'. A law counts once. -/
mutual
def uptoBulk {H : Type} : DataW H → Nat
  | .lit (.string bytes) => bytes.length + 1
  | .lit _ => 1
  | .nil => 1
  | .ptr d => uptoBulk d + 1
  | .slice elems spare => uptoBulkAll elems + uptoBulkAll spare + 1
  | .agg parts => uptoBulkAll parts + 1
  | .iface _ d => uptoBulk d + 1
  | .map entries => uptoBulkEntries entries + 1
  | .held _ => 1
def uptoBulkAll {H : Type} : List (DataW H) → Nat
  | [] => 0
  | d :: r => uptoBulk d + uptoBulkAll r
def uptoBulkEntries {H : Type} : List (Lit × DataW H) → Nat
  | [] => 0
  | x :: r => uptoBulkEntry x + uptoBulkEntries r
def uptoBulkEntry {H : Type} : Lit × DataW H → Nat
  | (.string bytes, d) => bytes.length + uptoBulk d + 1
  | (_, d) => uptoBulk d + 1
 end
def uptoSmall : (H : Type) → List (DataW H) → Bool := fun _ ds => decide (uptoBulkAll ds ≤ 1048576)
def OpenSpec.upto (s : _root_.Go.ChangeSpec) : _root_.Go.OpenSpec := { _root_.Go.OpenSpec.ofChange s with cond := some uptoSmall }

/-- 'laws.FnDefineFirst', WHERE WHAT IT READS IS OF BULK AT MOST 1048576: true; the input reads as it did. -/
def fnDefineFirstUptoRow : OpenClaim := { program := "ythaelfafmnbjgaagreatdoor", sum := "913463a3d303ea84bebf7a968782cde58e0701f6b63e44d3ff9cfff4be4c58e5", func := "loop.example/pub-g01461/laws.FnDefineFirst", spec := "fnDefineFirst", inPlace := ["internal/bytealg.IndexByteString"], unfollowed := true, recurses := true, named := ["unicode.properties", "unicode.Letter", "unicode.Digit", "io.EOF", "unicode/utf8.first", "unicode/utf8.acceptRanges", "bytes.ErrTooLarge", "strings.asciiSpace", "unicode.White_Space", "strconv.isPrint16", "strconv.isNotPrint16", "strconv.isPrint32", "strconv.isNotPrint32", "strconv.isGraphic", "strconv.ErrSyntax", "strconv.ErrRange", "internal/strconv.uint64pow10", "math/bits.deBruijn32tab", "math/bits.deBruijn64tab"], apart := false, laid := [("math/bits.deBruijn32tab", laid_math_bits_deBruijn32tab), ("math/bits.deBruijn64tab", laid_math_bits_deBruijn64tab), ("io.EOF", laid_io_EOF), ("unicode.properties", laid_unicode_properties), ("unicode/utf8.first", laid_unicode_utf8_first)], narrowed := true }
def FnDefineFirstUptoSaid : Prop := fnDefineFirstUptoRow.holds Tryz.pinned (OpenSpec.upto fnDefineFirstSpec)

/-- 'laws.FnDefineOne', WHERE WHAT IT READS IS OF BULK AT MOST 1048576: true; the input reads as it did. -/
def fnDefineOneUptoRow : OpenClaim := { program := "ythaelfafmnbjgaagreatdoor", sum := "913463a3d303ea84bebf7a968782cde58e0701f6b63e44d3ff9cfff4be4c58e5", func := "loop.example/pub-g01461/laws.FnDefineOne", spec := "fnDefineOne", inPlace := ["internal/bytealg.IndexByteString"], unfollowed := true, recurses := true, named := ["unicode.properties", "unicode.Letter", "unicode.Digit", "io.EOF", "unicode/utf8.first", "unicode/utf8.acceptRanges", "bytes.ErrTooLarge", "strings.asciiSpace", "unicode.White_Space", "strconv.isPrint16", "strconv.isNotPrint16", "strconv.isPrint32", "strconv.isNotPrint32", "strconv.isGraphic", "strconv.ErrSyntax", "strconv.ErrRange", "internal/strconv.uint64pow10", "math/bits.deBruijn32tab", "math/bits.deBruijn64tab"], apart := false, laid := [("math/bits.deBruijn32tab", laid_math_bits_deBruijn32tab), ("math/bits.deBruijn64tab", laid_math_bits_deBruijn64tab), ("io.EOF", laid_io_EOF), ("unicode.properties", laid_unicode_properties), ("unicode/utf8.first", laid_unicode_utf8_first)], narrowed := true }
def FnDefineOneUptoSaid : Prop := fnDefineOneUptoRow.holds Tryz.pinned (OpenSpec.upto fnDefineOneSpec)

/-- 'laws.FnIf', WHERE WHAT IT READS IS OF BULK AT MOST 1048576: true; the input reads as it did. -/
def fnIfUptoRow : OpenClaim := { program := "ythaelfafmnbjgaagreatdoor", sum := "913463a3d303ea84bebf7a968782cde58e0701f6b63e44d3ff9cfff4be4c58e5", func := "loop.example/pub-g01461/laws.FnIf", spec := "fnIf", inPlace := ["internal/bytealg.IndexByteString"], unfollowed := true, recurses := true, named := ["unicode.properties", "unicode.Letter", "unicode.Digit", "io.EOF", "unicode/utf8.first", "unicode/utf8.acceptRanges", "bytes.ErrTooLarge", "strings.asciiSpace", "unicode.White_Space", "strconv.isPrint16", "strconv.isNotPrint16", "strconv.isPrint32", "strconv.isNotPrint32", "strconv.isGraphic", "strconv.ErrSyntax", "strconv.ErrRange", "internal/strconv.uint64pow10", "math/bits.deBruijn32tab", "math/bits.deBruijn64tab"], apart := false, laid := [("math/bits.deBruijn32tab", laid_math_bits_deBruijn32tab), ("math/bits.deBruijn64tab", laid_math_bits_deBruijn64tab), ("io.EOF", laid_io_EOF), ("unicode.properties", laid_unicode_properties), ("unicode/utf8.first", laid_unicode_utf8_first)], narrowed := true }
def FnIfUptoSaid : Prop := fnIfUptoRow.holds Tryz.pinned (OpenSpec.upto fnIfSpec)

/-- 'laws.FnIncludeDir', WHERE WHAT IT READS IS OF BULK AT MOST 1048576: true; the input reads as it did. -/
def fnIncludeDirUptoRow : OpenClaim := { program := "ythaelfafmnbjgaagreatdoor", sum := "913463a3d303ea84bebf7a968782cde58e0701f6b63e44d3ff9cfff4be4c58e5", func := "loop.example/pub-g01461/laws.FnIncludeDir", spec := "fnIncludeDir", inPlace := ["internal/bytealg.IndexByteString"], unfollowed := true, recurses := true, named := ["unicode.properties", "unicode.Letter", "unicode.Digit", "io.EOF", "unicode/utf8.first", "unicode/utf8.acceptRanges", "bytes.ErrTooLarge", "strings.asciiSpace", "unicode.White_Space", "strconv.isPrint16", "strconv.isNotPrint16", "strconv.isPrint32", "strconv.isNotPrint32", "strconv.isGraphic", "strconv.ErrSyntax", "strconv.ErrRange", "internal/strconv.uint64pow10", "math/bits.deBruijn32tab", "math/bits.deBruijn64tab"], apart := false, laid := [("math/bits.deBruijn32tab", laid_math_bits_deBruijn32tab), ("math/bits.deBruijn64tab", laid_math_bits_deBruijn64tab), ("io.EOF", laid_io_EOF), ("unicode.properties", laid_unicode_properties), ("unicode/utf8.first", laid_unicode_utf8_first)], narrowed := true }
def FnIncludeDirUptoSaid : Prop := fnIncludeDirUptoRow.holds Tryz.pinned (OpenSpec.upto fnIncludeDirSpec)

/-- 'laws.FnWrongArgs', WHERE WHAT IT READS IS OF BULK AT MOST 1048576: true; the input reads as it did. -/
def fnWrongArgsUptoRow : OpenClaim := { program := "ythaelfafmnbjgaagreatdoor", sum := "913463a3d303ea84bebf7a968782cde58e0701f6b63e44d3ff9cfff4be4c58e5", func := "loop.example/pub-g01461/laws.FnWrongArgs", spec := "fnWrongArgs", inPlace := ["internal/bytealg.IndexByteString"], unfollowed := true, recurses := true, named := ["unicode.properties", "unicode.Letter", "unicode.Digit", "io.EOF", "unicode/utf8.first", "unicode/utf8.acceptRanges", "bytes.ErrTooLarge", "strings.asciiSpace", "unicode.White_Space", "strconv.isPrint16", "strconv.isNotPrint16", "strconv.isPrint32", "strconv.isNotPrint32", "strconv.isGraphic", "strconv.ErrSyntax", "strconv.ErrRange", "internal/strconv.uint64pow10", "math/bits.deBruijn32tab", "math/bits.deBruijn64tab"], apart := false, laid := [("math/bits.deBruijn32tab", laid_math_bits_deBruijn32tab), ("math/bits.deBruijn64tab", laid_math_bits_deBruijn64tab), ("io.EOF", laid_io_EOF), ("unicode.properties", laid_unicode_properties), ("unicode/utf8.first", laid_unicode_utf8_first)], narrowed := true }
def FnWrongArgsUptoSaid : Prop := fnWrongArgsUptoRow.holds Tryz.pinned (OpenSpec.upto fnWrongArgsSpec)

/-- 'laws.FnWrongEnd', WHERE WHAT IT READS IS OF BULK AT MOST 1048576: true; the input reads as it did. -/
def fnWrongEndUptoRow : OpenClaim := { program := "ythaelfafmnbjgaagreatdoor", sum := "913463a3d303ea84bebf7a968782cde58e0701f6b63e44d3ff9cfff4be4c58e5", func := "loop.example/pub-g01461/laws.FnWrongEnd", spec := "fnWrongEnd", inPlace := ["internal/bytealg.IndexByteString"], unfollowed := true, recurses := true, named := ["unicode.properties", "unicode.Letter", "unicode.Digit", "io.EOF", "unicode/utf8.first", "unicode/utf8.acceptRanges", "bytes.ErrTooLarge", "strings.asciiSpace", "unicode.White_Space", "strconv.isPrint16", "strconv.isNotPrint16", "strconv.isPrint32", "strconv.isNotPrint32", "strconv.isGraphic", "strconv.ErrSyntax", "strconv.ErrRange", "internal/strconv.uint64pow10", "math/bits.deBruijn32tab", "math/bits.deBruijn64tab"], apart := false, laid := [("math/bits.deBruijn32tab", laid_math_bits_deBruijn32tab), ("math/bits.deBruijn64tab", laid_math_bits_deBruijn64tab), ("io.EOF", laid_io_EOF), ("unicode.properties", laid_unicode_properties), ("unicode/utf8.first", laid_unicode_utf8_first)], narrowed := true }
def FnWrongEndUptoSaid : Prop := fnWrongEndUptoRow.holds Tryz.pinned (OpenSpec.upto fnWrongEndSpec)

/-- 'laws.FnWrongFile', WHERE WHAT IT READS IS OF BULK AT MOST 1048576: true; the input reads as it did. -/
def fnWrongFileUptoRow : OpenClaim := { program := "ythaelfafmnbjgaagreatdoor", sum := "913463a3d303ea84bebf7a968782cde58e0701f6b63e44d3ff9cfff4be4c58e5", func := "loop.example/pub-g01461/laws.FnWrongFile", spec := "fnWrongFile", inPlace := ["internal/bytealg.IndexByteString"], unfollowed := true, recurses := true, named := ["unicode.properties", "unicode.Letter", "unicode.Digit", "io.EOF", "unicode/utf8.first", "unicode/utf8.acceptRanges", "bytes.ErrTooLarge", "strings.asciiSpace", "unicode.White_Space", "strconv.isPrint16", "strconv.isNotPrint16", "strconv.isPrint32", "strconv.isNotPrint32", "strconv.isGraphic", "strconv.ErrSyntax", "strconv.ErrRange", "internal/strconv.uint64pow10", "math/bits.deBruijn32tab", "math/bits.deBruijn64tab"], apart := false, laid := [("math/bits.deBruijn32tab", laid_math_bits_deBruijn32tab), ("math/bits.deBruijn64tab", laid_math_bits_deBruijn64tab), ("io.EOF", laid_io_EOF), ("unicode.properties", laid_unicode_properties), ("unicode/utf8.first", laid_unicode_utf8_first)], narrowed := true }
def FnWrongFileUptoSaid : Prop := fnWrongFileUptoRow.holds Tryz.pinned (OpenSpec.upto fnWrongFileSpec)

/-- 'laws.FnWrongPlace', WHERE WHAT IT READS IS OF BULK AT MOST 1048576: true; the input reads as it did. -/
def fnWrongPlaceUptoRow : OpenClaim := { program := "ythaelfafmnbjgaagreatdoor", sum := "913463a3d303ea84bebf7a968782cde58e0701f6b63e44d3ff9cfff4be4c58e5", func := "loop.example/pub-g01461/laws.FnWrongPlace", spec := "fnWrongPlace", inPlace := ["internal/bytealg.IndexByteString"], unfollowed := true, recurses := true, named := ["unicode.properties", "unicode.Letter", "unicode.Digit", "io.EOF", "unicode/utf8.first", "unicode/utf8.acceptRanges", "bytes.ErrTooLarge", "strings.asciiSpace", "unicode.White_Space", "strconv.isPrint16", "strconv.isNotPrint16", "strconv.isPrint32", "strconv.isNotPrint32", "strconv.isGraphic", "strconv.ErrSyntax", "strconv.ErrRange", "internal/strconv.uint64pow10", "math/bits.deBruijn32tab", "math/bits.deBruijn64tab"], apart := false, laid := [("math/bits.deBruijn32tab", laid_math_bits_deBruijn32tab), ("math/bits.deBruijn64tab", laid_math_bits_deBruijn64tab), ("io.EOF", laid_io_EOF), ("unicode.properties", laid_unicode_properties), ("unicode/utf8.first", laid_unicode_utf8_first)], narrowed := true }
def FnWrongPlaceUptoSaid : Prop := fnWrongPlaceUptoRow.holds Tryz.pinned (OpenSpec.upto fnWrongPlaceSpec)

/-- 'laws.FnWrongTwice', WHERE WHAT IT READS IS OF BULK AT MOST 1048576: true; the input reads as it did. -/
def fnWrongTwiceUptoRow : OpenClaim := { program := "ythaelfafmnbjgaagreatdoor", sum := "913463a3d303ea84bebf7a968782cde58e0701f6b63e44d3ff9cfff4be4c58e5", func := "loop.example/pub-g01461/laws.FnWrongTwice", spec := "fnWrongTwice", inPlace := ["internal/bytealg.IndexByteString"], unfollowed := true, recurses := true, named := ["unicode.properties", "unicode.Letter", "unicode.Digit", "io.EOF", "unicode/utf8.first", "unicode/utf8.acceptRanges", "bytes.ErrTooLarge", "strings.asciiSpace", "unicode.White_Space", "strconv.isPrint16", "strconv.isNotPrint16", "strconv.isPrint32", "strconv.isNotPrint32", "strconv.isGraphic", "strconv.ErrSyntax", "strconv.ErrRange", "internal/strconv.uint64pow10", "math/bits.deBruijn32tab", "math/bits.deBruijn64tab"], apart := false, laid := [("math/bits.deBruijn32tab", laid_math_bits_deBruijn32tab), ("math/bits.deBruijn64tab", laid_math_bits_deBruijn64tab), ("io.EOF", laid_io_EOF), ("unicode.properties", laid_unicode_properties), ("unicode/utf8.first", laid_unicode_utf8_first)], narrowed := true }
def FnWrongTwiceUptoSaid : Prop := fnWrongTwiceUptoRow.holds Tryz.pinned (OpenSpec.upto fnWrongTwiceSpec)

end Rows
end Go.Proofs.YthaelfafmnbjgaaGreatDoor
