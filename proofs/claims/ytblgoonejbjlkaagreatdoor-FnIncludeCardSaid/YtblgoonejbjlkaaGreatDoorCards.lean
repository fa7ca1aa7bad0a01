/-
  DERIVED. GIVEN WITH THE SEED: THE CARDS: each row of YtblgoonejbjlkaaGreatDoorRows.lean that lists a variable, with what it lists TIED to the program's text (the seventh form; the later family's looks); each row that meets fmt, with fmt's text TOLD by the authors' own Lean function (tested against real Go, not proved from fmt's source: count such statements apart). THE CARD IS WHAT COUNTS. Prove the row's statement (the work); the ties are given (YtblgoonejbjlkaaGreatDoorTie.lean); close each card by the builder's one call (the guide's Derived/Test/ToyasCard.lean, 'card_holds'). Laid BY PROGRAM, IN A SANDBOX (cutbox-door.mjs). By AI agents, Wed Nov 11 2026. No macro, syntax, notation, axiom, sorry.
-/
import Derived.Test.YtblgoonejbjlkaaGreatDoorRows
import GoSem.ClaimSeven
namespace Go.Proofs.YtblgoonejbjlkaaGreatDoor
namespace Rows

/-- THE TIED CARD OF 'laws.FnDefineArgs'. -/
def fnDefineArgsCard : Claim7 := { stood := { row := fnDefineArgsRow, standIns := [], harness := (true, "a46a725a83272b32a66ec51ec2f4c11881da9de2a0bacb392c773a0410ed6193"), looks := true }, kinds := [], alts := [], laidByText := true, laidKinds := [.data, .data, .sentinel, .data], laidTests := true, laidLooks := .later }
def FnDefineArgsCardSaid : Prop := Claim7.holds Tryz.pinned (.plain (OpenSpec.ofChange fnDefineArgsSpec)) fnDefineArgsCard

/-- THE TIED CARD OF 'laws.FnMacro'. -/
def fnMacroCard : Claim7 := { stood := { row := fnMacroRow, standIns := [], harness := (true, "a46a725a83272b32a66ec51ec2f4c11881da9de2a0bacb392c773a0410ed6193"), looks := true }, kinds := [], alts := [], laidByText := true, laidKinds := [.data, .data, .sentinel, .data], laidTests := true, laidLooks := .later }
def FnMacroCardSaid : Prop := Claim7.holds Tryz.pinned (.plain (OpenSpec.ofChange fnMacroSpec)) fnMacroCard

/-- THE TIED CARD OF 'laws.FnMacroArgs'. -/
def fnMacroArgsCard : Claim7 := { stood := { row := fnMacroArgsRow, standIns := [], harness := (true, "a46a725a83272b32a66ec51ec2f4c11881da9de2a0bacb392c773a0410ed6193"), looks := true }, kinds := [], alts := [], laidByText := true, laidKinds := [.data, .data, .sentinel, .data], laidTests := true, laidLooks := .later }
def FnMacroArgsCardSaid : Prop := Claim7.holds Tryz.pinned (.plain (OpenSpec.ofChange fnMacroArgsSpec)) fnMacroArgsCard

/-- THE TIED CARD OF 'laws.FnMacroNone'. -/
def fnMacroNoneCard : Claim7 := { stood := { row := fnMacroNoneRow, standIns := [], harness := (true, "a46a725a83272b32a66ec51ec2f4c11881da9de2a0bacb392c773a0410ed6193"), looks := true }, kinds := [], alts := [], laidByText := true, laidKinds := [.data, .data, .sentinel, .data], laidTests := true, laidLooks := .later }
def FnMacroNoneCardSaid : Prop := Claim7.holds Tryz.pinned (.plain (OpenSpec.ofChange fnMacroNoneSpec)) fnMacroNoneCard

/-- THE TIED CARD OF 'laws.FnDefine'. -/
def fnDefineCard : Claim7 := { stood := { row := fnDefineRow, standIns := [], harness := (true, "a46a725a83272b32a66ec51ec2f4c11881da9de2a0bacb392c773a0410ed6193"), looks := true }, kinds := [], alts := [], laidByText := true, laidKinds := [.data, .data, .sentinel, .data], laidTests := true, laidLooks := .later }
def FnDefineCardSaid : Prop := Claim7.holds Tryz.pinned (.plain (OpenSpec.ofChange fnDefineSpec)) fnDefineCard

/-- THE TIED CARD OF 'laws.FnIfNothing'. -/
def fnIfNothingCard : Claim7 := { stood := { row := fnIfNothingRow, standIns := [], harness := (true, "a46a725a83272b32a66ec51ec2f4c11881da9de2a0bacb392c773a0410ed6193"), looks := true }, kinds := [], alts := [], laidByText := true, laidKinds := [.data, .data, .sentinel, .data], laidTests := true, laidLooks := .later }
def FnIfNothingCardSaid : Prop := Claim7.holds Tryz.pinned (.plain (OpenSpec.ofChange fnIfNothingSpec)) fnIfNothingCard

/-- THE TIED CARD OF 'laws.FnInclude'. -/
def fnIncludeCard : Claim7 := { stood := { row := fnIncludeRow, standIns := [], harness := (true, "a46a725a83272b32a66ec51ec2f4c11881da9de2a0bacb392c773a0410ed6193"), looks := true }, kinds := [], alts := [], laidByText := true, laidKinds := [.data, .data, .sentinel, .data], laidTests := true, laidLooks := .later }
def FnIncludeCardSaid : Prop := Claim7.holds Tryz.pinned (.plain (OpenSpec.ofChange fnIncludeSpec)) fnIncludeCard

/-- THE TIED CARD OF 'laws.FnUndef'. -/
def fnUndefCard : Claim7 := { stood := { row := fnUndefRow, standIns := [], harness := (true, "a46a725a83272b32a66ec51ec2f4c11881da9de2a0bacb392c773a0410ed6193"), looks := true }, kinds := [], alts := [], laidByText := true, laidKinds := [.data, .data, .sentinel, .data], laidTests := true, laidLooks := .later }
def FnUndefCardSaid : Prop := Claim7.holds Tryz.pinned (.plain (OpenSpec.ofChange fnUndefSpec)) fnUndefCard

/-- THE SECOND FORM's CARD OF 'laws.FnDefineArgs'. -/
def fnDefineArgsUptoCard : Claim7 := { stood := { row := fnDefineArgsUptoRow, standIns := [], harness := (true, "a46a725a83272b32a66ec51ec2f4c11881da9de2a0bacb392c773a0410ed6193"), looks := true }, kinds := [], alts := [], laidByText := true, laidKinds := [.data, .data, .sentinel, .data], laidTests := true, laidLooks := .later }
def FnDefineArgsUptoCardSaid : Prop := Claim7.holds Tryz.pinned (.plain (OpenSpec.upto fnDefineArgsSpec)) fnDefineArgsUptoCard

/-- THE SECOND FORM's CARD OF 'laws.FnMacro'. -/
def fnMacroUptoCard : Claim7 := { stood := { row := fnMacroUptoRow, standIns := [], harness := (true, "a46a725a83272b32a66ec51ec2f4c11881da9de2a0bacb392c773a0410ed6193"), looks := true }, kinds := [], alts := [], laidByText := true, laidKinds := [.data, .data, .sentinel, .data], laidTests := true, laidLooks := .later }
def FnMacroUptoCardSaid : Prop := Claim7.holds Tryz.pinned (.plain (OpenSpec.upto fnMacroSpec)) fnMacroUptoCard

/-- THE SECOND FORM's CARD OF 'laws.FnMacroArgs'. -/
def fnMacroArgsUptoCard : Claim7 := { stood := { row := fnMacroArgsUptoRow, standIns := [], harness := (true, "a46a725a83272b32a66ec51ec2f4c11881da9de2a0bacb392c773a0410ed6193"), looks := true }, kinds := [], alts := [], laidByText := true, laidKinds := [.data, .data, .sentinel, .data], laidTests := true, laidLooks := .later }
def FnMacroArgsUptoCardSaid : Prop := Claim7.holds Tryz.pinned (.plain (OpenSpec.upto fnMacroArgsSpec)) fnMacroArgsUptoCard

/-- THE SECOND FORM's CARD OF 'laws.FnMacroNone'. -/
def fnMacroNoneUptoCard : Claim7 := { stood := { row := fnMacroNoneUptoRow, standIns := [], harness := (true, "a46a725a83272b32a66ec51ec2f4c11881da9de2a0bacb392c773a0410ed6193"), looks := true }, kinds := [], alts := [], laidByText := true, laidKinds := [.data, .data, .sentinel, .data], laidTests := true, laidLooks := .later }
def FnMacroNoneUptoCardSaid : Prop := Claim7.holds Tryz.pinned (.plain (OpenSpec.upto fnMacroNoneSpec)) fnMacroNoneUptoCard

/-- THE SECOND FORM's CARD OF 'laws.FnDefine'. -/
def fnDefineUptoCard : Claim7 := { stood := { row := fnDefineUptoRow, standIns := [], harness := (true, "a46a725a83272b32a66ec51ec2f4c11881da9de2a0bacb392c773a0410ed6193"), looks := true }, kinds := [], alts := [], laidByText := true, laidKinds := [.data, .data, .sentinel, .data], laidTests := true, laidLooks := .later }
def FnDefineUptoCardSaid : Prop := Claim7.holds Tryz.pinned (.plain (OpenSpec.upto fnDefineSpec)) fnDefineUptoCard

/-- THE SECOND FORM's CARD OF 'laws.FnIfNothing'. -/
def fnIfNothingUptoCard : Claim7 := { stood := { row := fnIfNothingUptoRow, standIns := [], harness := (true, "a46a725a83272b32a66ec51ec2f4c11881da9de2a0bacb392c773a0410ed6193"), looks := true }, kinds := [], alts := [], laidByText := true, laidKinds := [.data, .data, .sentinel, .data], laidTests := true, laidLooks := .later }
def FnIfNothingUptoCardSaid : Prop := Claim7.holds Tryz.pinned (.plain (OpenSpec.upto fnIfNothingSpec)) fnIfNothingUptoCard

/-- THE SECOND FORM's CARD OF 'laws.FnInclude'. -/
def fnIncludeUptoCard : Claim7 := { stood := { row := fnIncludeUptoRow, standIns := [], harness := (true, "a46a725a83272b32a66ec51ec2f4c11881da9de2a0bacb392c773a0410ed6193"), looks := true }, kinds := [], alts := [], laidByText := true, laidKinds := [.data, .data, .sentinel, .data], laidTests := true, laidLooks := .later }
def FnIncludeUptoCardSaid : Prop := Claim7.holds Tryz.pinned (.plain (OpenSpec.upto fnIncludeSpec)) fnIncludeUptoCard

/-- THE SECOND FORM's CARD OF 'laws.FnUndef'. -/
def fnUndefUptoCard : Claim7 := { stood := { row := fnUndefUptoRow, standIns := [], harness := (true, "a46a725a83272b32a66ec51ec2f4c11881da9de2a0bacb392c773a0410ed6193"), looks := true }, kinds := [], alts := [], laidByText := true, laidKinds := [.data, .data, .sentinel, .data], laidTests := true, laidLooks := .later }
def FnUndefUptoCardSaid : Prop := Claim7.holds Tryz.pinned (.plain (OpenSpec.upto fnUndefSpec)) fnUndefUptoCard
end Rows
end Go.Proofs.YtblgoonejbjlkaaGreatDoor
