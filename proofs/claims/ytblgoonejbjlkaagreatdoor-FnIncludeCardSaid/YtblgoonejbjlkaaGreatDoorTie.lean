/-
  DERIVED. GIVEN WITH THE SEED: THE PROGRAM's TIES (one call each: nine closed facts by the kernel) AND EACH ROW's TIE, after the 31st guide's Derived/Test/Toyas{Tie, Card}.lean. No idea stands in it: it is a product of the set-up. Laid BY PROGRAM, IN A SANDBOX (cutbox-door.mjs). By AI agents, Wed Nov 11 2026. No macro, syntax, notation, axiom, sorry.
-/
import Derived.Test.YtblgoonejbjlkaaGreatDoorRows
import Derived.LaidByTextLater
import Derived.SevenTiedAt
import Derived.LaidSub
import Derived.LaidOnce
namespace Go.Proofs.YtblgoonejbjlkaaGreatDoor
open Go
set_option maxRecDepth 100000
theorem seatTie1 : Tryz.prog.laidByTextLater [("math/bits.deBruijn32tab", Rows.laid_math_bits_deBruijn32tab), ("math/bits.deBruijn64tab", Rows.laid_math_bits_deBruijn64tab), ("io.EOF", Rows.laid_io_EOF), ("unicode.properties", Rows.laid_unicode_properties)] [.data, .data, .sentinel, .data] true :=
  Program.laidByTextLater_by_one 139 8 257 (by kernel_rfl) (by kernel_rfl) (by kernel_rfl) (by kernel_rfl) (by kernel_rfl) (by kernel_rfl) (fun _ _ => by kernel_rfl)
theorem noOwnUnsafe : Tryz.pinned.checked.prog.headLifts.contains "ownunsafe" = false := by kernel_rfl
theorem tie : Tryz.prog.laidByTextLater [("math/bits.deBruijn32tab", Rows.laid_math_bits_deBruijn32tab), ("math/bits.deBruijn64tab", Rows.laid_math_bits_deBruijn64tab), ("io.EOF", Rows.laid_io_EOF), ("unicode.properties", Rows.laid_unicode_properties)] [.data, .data, .sentinel, .data] true :=
  Program.laidByTextLater.sub seatTie1 ["math/bits.deBruijn32tab", "math/bits.deBruijn64tab", "io.EOF", "unicode.properties"] (by kernel_rfl) (by kernel_rfl)
theorem fnDefineArgs_row_tie : Rows.fnDefineArgsRow.laidByTextAt .later Tryz.pinned [.data, .data, .sentinel, .data] true :=
  OpenClaim.laidByTextAt_later rfl rfl tie noOwnUnsafe
theorem fnMacro_row_tie : Rows.fnMacroRow.laidByTextAt .later Tryz.pinned [.data, .data, .sentinel, .data] true :=
  OpenClaim.laidByTextAt_later rfl rfl tie noOwnUnsafe
theorem fnMacroArgs_row_tie : Rows.fnMacroArgsRow.laidByTextAt .later Tryz.pinned [.data, .data, .sentinel, .data] true :=
  OpenClaim.laidByTextAt_later rfl rfl tie noOwnUnsafe
theorem fnMacroNone_row_tie : Rows.fnMacroNoneRow.laidByTextAt .later Tryz.pinned [.data, .data, .sentinel, .data] true :=
  OpenClaim.laidByTextAt_later rfl rfl tie noOwnUnsafe
theorem fnDefine_row_tie : Rows.fnDefineRow.laidByTextAt .later Tryz.pinned [.data, .data, .sentinel, .data] true :=
  OpenClaim.laidByTextAt_later rfl rfl tie noOwnUnsafe
theorem fnIfNothing_row_tie : Rows.fnIfNothingRow.laidByTextAt .later Tryz.pinned [.data, .data, .sentinel, .data] true :=
  OpenClaim.laidByTextAt_later rfl rfl tie noOwnUnsafe
theorem fnInclude_row_tie : Rows.fnIncludeRow.laidByTextAt .later Tryz.pinned [.data, .data, .sentinel, .data] true :=
  OpenClaim.laidByTextAt_later rfl rfl tie noOwnUnsafe
theorem fnUndef_row_tie : Rows.fnUndefRow.laidByTextAt .later Tryz.pinned [.data, .data, .sentinel, .data] true :=
  OpenClaim.laidByTextAt_later rfl rfl tie noOwnUnsafe
theorem fnDefineArgsUpto_row_tie : Rows.fnDefineArgsUptoRow.laidByTextAt .later Tryz.pinned [.data, .data, .sentinel, .data] true :=
  OpenClaim.laidByTextAt_later rfl rfl tie noOwnUnsafe
theorem fnMacroUpto_row_tie : Rows.fnMacroUptoRow.laidByTextAt .later Tryz.pinned [.data, .data, .sentinel, .data] true :=
  OpenClaim.laidByTextAt_later rfl rfl tie noOwnUnsafe
theorem fnMacroArgsUpto_row_tie : Rows.fnMacroArgsUptoRow.laidByTextAt .later Tryz.pinned [.data, .data, .sentinel, .data] true :=
  OpenClaim.laidByTextAt_later rfl rfl tie noOwnUnsafe
theorem fnMacroNoneUpto_row_tie : Rows.fnMacroNoneUptoRow.laidByTextAt .later Tryz.pinned [.data, .data, .sentinel, .data] true :=
  OpenClaim.laidByTextAt_later rfl rfl tie noOwnUnsafe
theorem fnDefineUpto_row_tie : Rows.fnDefineUptoRow.laidByTextAt .later Tryz.pinned [.data, .data, .sentinel, .data] true :=
  OpenClaim.laidByTextAt_later rfl rfl tie noOwnUnsafe
theorem fnIfNothingUpto_row_tie : Rows.fnIfNothingUptoRow.laidByTextAt .later Tryz.pinned [.data, .data, .sentinel, .data] true :=
  OpenClaim.laidByTextAt_later rfl rfl tie noOwnUnsafe
theorem fnIncludeUpto_row_tie : Rows.fnIncludeUptoRow.laidByTextAt .later Tryz.pinned [.data, .data, .sentinel, .data] true :=
  OpenClaim.laidByTextAt_later rfl rfl tie noOwnUnsafe
theorem fnUndefUpto_row_tie : Rows.fnUndefUptoRow.laidByTextAt .later Tryz.pinned [.data, .data, .sentinel, .data] true :=
  OpenClaim.laidByTextAt_later rfl rfl tie noOwnUnsafe
end Go.Proofs.YtblgoonejbjlkaaGreatDoor
