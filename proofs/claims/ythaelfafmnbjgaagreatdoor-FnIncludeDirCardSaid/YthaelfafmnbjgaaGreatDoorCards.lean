/-
  DERIVED. GIVEN WITH THE SEED: THE CARDS: each row of YthaelfafmnbjgaaGreatDoorRows.lean that lists a variable, with what it lists TIED to the program's text (the seventh form; the later family's looks); each row that meets fmt, with fmt's text TOLD by the authors' own Lean function (tested against real Go, not proved from fmt's source: count such statements apart). THE CARD IS WHAT COUNTS. Prove the row's statement (the work); the ties are given (YthaelfafmnbjgaaGreatDoorTie.lean); close each card by the builder's one call (the guide's Derived/Test/ToyasCard.lean, 'card_holds'). Laid BY PROGRAM, IN A SANDBOX (cutbox-door.mjs). By AI agents, Wed Nov 11 2026. No macro, syntax, notation, axiom, sorry.
-/
import Derived.Test.YthaelfafmnbjgaaGreatDoorRows
import GoSem.ClaimSeven
namespace Go.Proofs.YthaelfafmnbjgaaGreatDoor
namespace Rows

/-- THE TIED CARD OF 'laws.FnDefineFirst'. -/
def fnDefineFirstCard : Claim7 := { stood := { row := fnDefineFirstRow, standIns := [], harness := (true, "87cc421b8665daf0e7c92f56c7664320a078d037c9c997ec7a41d91977f35aab"), looks := true }, kinds := [], alts := [], laidByText := true, laidKinds := [.data, .data, .sentinel, .data, .pinned], laidTests := true, laidLooks := .later }
def FnDefineFirstCardSaid : Prop := Claim7.holds Tryz.pinned (.plain (OpenSpec.ofChange fnDefineFirstSpec)) fnDefineFirstCard

/-- THE TIED CARD OF 'laws.FnDefineOne'. -/
def fnDefineOneCard : Claim7 := { stood := { row := fnDefineOneRow, standIns := [], harness := (true, "87cc421b8665daf0e7c92f56c7664320a078d037c9c997ec7a41d91977f35aab"), looks := true }, kinds := [], alts := [], laidByText := true, laidKinds := [.data, .data, .sentinel, .data, .pinned], laidTests := true, laidLooks := .later }
def FnDefineOneCardSaid : Prop := Claim7.holds Tryz.pinned (.plain (OpenSpec.ofChange fnDefineOneSpec)) fnDefineOneCard

/-- THE TIED CARD OF 'laws.FnIf'. -/
def fnIfCard : Claim7 := { stood := { row := fnIfRow, standIns := [], harness := (true, "87cc421b8665daf0e7c92f56c7664320a078d037c9c997ec7a41d91977f35aab"), looks := true }, kinds := [], alts := [], laidByText := true, laidKinds := [.data, .data, .sentinel, .data, .pinned], laidTests := true, laidLooks := .later }
def FnIfCardSaid : Prop := Claim7.holds Tryz.pinned (.plain (OpenSpec.ofChange fnIfSpec)) fnIfCard

/-- THE TIED CARD OF 'laws.FnIncludeDir'. -/
def fnIncludeDirCard : Claim7 := { stood := { row := fnIncludeDirRow, standIns := [], harness := (true, "87cc421b8665daf0e7c92f56c7664320a078d037c9c997ec7a41d91977f35aab"), looks := true }, kinds := [], alts := [], laidByText := true, laidKinds := [.data, .data, .sentinel, .data, .pinned], laidTests := true, laidLooks := .later }
def FnIncludeDirCardSaid : Prop := Claim7.holds Tryz.pinned (.plain (OpenSpec.ofChange fnIncludeDirSpec)) fnIncludeDirCard

/-- THE TIED CARD OF 'laws.FnWrongArgs'. -/
def fnWrongArgsCard : Claim7 := { stood := { row := fnWrongArgsRow, standIns := [], harness := (true, "87cc421b8665daf0e7c92f56c7664320a078d037c9c997ec7a41d91977f35aab"), looks := true }, kinds := [], alts := [], laidByText := true, laidKinds := [.data, .data, .sentinel, .data, .pinned], laidTests := true, laidLooks := .later }
def FnWrongArgsCardSaid : Prop := Claim7.holds Tryz.pinned (.plain (OpenSpec.ofChange fnWrongArgsSpec)) fnWrongArgsCard

/-- THE TIED CARD OF 'laws.FnWrongEnd'. -/
def fnWrongEndCard : Claim7 := { stood := { row := fnWrongEndRow, standIns := [], harness := (true, "87cc421b8665daf0e7c92f56c7664320a078d037c9c997ec7a41d91977f35aab"), looks := true }, kinds := [], alts := [], laidByText := true, laidKinds := [.data, .data, .sentinel, .data, .pinned], laidTests := true, laidLooks := .later }
def FnWrongEndCardSaid : Prop := Claim7.holds Tryz.pinned (.plain (OpenSpec.ofChange fnWrongEndSpec)) fnWrongEndCard

/-- THE TIED CARD OF 'laws.FnWrongFile'. -/
def fnWrongFileCard : Claim7 := { stood := { row := fnWrongFileRow, standIns := [], harness := (true, "87cc421b8665daf0e7c92f56c7664320a078d037c9c997ec7a41d91977f35aab"), looks := true }, kinds := [], alts := [], laidByText := true, laidKinds := [.data, .data, .sentinel, .data, .pinned], laidTests := true, laidLooks := .later }
def FnWrongFileCardSaid : Prop := Claim7.holds Tryz.pinned (.plain (OpenSpec.ofChange fnWrongFileSpec)) fnWrongFileCard

/-- THE TIED CARD OF 'laws.FnWrongPlace'. -/
def fnWrongPlaceCard : Claim7 := { stood := { row := fnWrongPlaceRow, standIns := [], harness := (true, "87cc421b8665daf0e7c92f56c7664320a078d037c9c997ec7a41d91977f35aab"), looks := true }, kinds := [], alts := [], laidByText := true, laidKinds := [.data, .data, .sentinel, .data, .pinned], laidTests := true, laidLooks := .later }
def FnWrongPlaceCardSaid : Prop := Claim7.holds Tryz.pinned (.plain (OpenSpec.ofChange fnWrongPlaceSpec)) fnWrongPlaceCard

/-- THE TIED CARD OF 'laws.FnWrongTwice'. -/
def fnWrongTwiceCard : Claim7 := { stood := { row := fnWrongTwiceRow, standIns := [], harness := (true, "87cc421b8665daf0e7c92f56c7664320a078d037c9c997ec7a41d91977f35aab"), looks := true }, kinds := [], alts := [], laidByText := true, laidKinds := [.data, .data, .sentinel, .data, .pinned], laidTests := true, laidLooks := .later }
def FnWrongTwiceCardSaid : Prop := Claim7.holds Tryz.pinned (.plain (OpenSpec.ofChange fnWrongTwiceSpec)) fnWrongTwiceCard

/-- THE SECOND FORM's CARD OF 'laws.FnDefineFirst'. -/
def fnDefineFirstUptoCard : Claim7 := { stood := { row := fnDefineFirstUptoRow, standIns := [], harness := (true, "87cc421b8665daf0e7c92f56c7664320a078d037c9c997ec7a41d91977f35aab"), looks := true }, kinds := [], alts := [], laidByText := true, laidKinds := [.data, .data, .sentinel, .data, .pinned], laidTests := true, laidLooks := .later }
def FnDefineFirstUptoCardSaid : Prop := Claim7.holds Tryz.pinned (.plain (OpenSpec.upto fnDefineFirstSpec)) fnDefineFirstUptoCard

/-- THE SECOND FORM's CARD OF 'laws.FnDefineOne'. -/
def fnDefineOneUptoCard : Claim7 := { stood := { row := fnDefineOneUptoRow, standIns := [], harness := (true, "87cc421b8665daf0e7c92f56c7664320a078d037c9c997ec7a41d91977f35aab"), looks := true }, kinds := [], alts := [], laidByText := true, laidKinds := [.data, .data, .sentinel, .data, .pinned], laidTests := true, laidLooks := .later }
def FnDefineOneUptoCardSaid : Prop := Claim7.holds Tryz.pinned (.plain (OpenSpec.upto fnDefineOneSpec)) fnDefineOneUptoCard

/-- THE SECOND FORM's CARD OF 'laws.FnIf'. -/
def fnIfUptoCard : Claim7 := { stood := { row := fnIfUptoRow, standIns := [], harness := (true, "87cc421b8665daf0e7c92f56c7664320a078d037c9c997ec7a41d91977f35aab"), looks := true }, kinds := [], alts := [], laidByText := true, laidKinds := [.data, .data, .sentinel, .data, .pinned], laidTests := true, laidLooks := .later }
def FnIfUptoCardSaid : Prop := Claim7.holds Tryz.pinned (.plain (OpenSpec.upto fnIfSpec)) fnIfUptoCard

/-- THE SECOND FORM's CARD OF 'laws.FnIncludeDir'. -/
def fnIncludeDirUptoCard : Claim7 := { stood := { row := fnIncludeDirUptoRow, standIns := [], harness := (true, "87cc421b8665daf0e7c92f56c7664320a078d037c9c997ec7a41d91977f35aab"), looks := true }, kinds := [], alts := [], laidByText := true, laidKinds := [.data, .data, .sentinel, .data, .pinned], laidTests := true, laidLooks := .later }
def FnIncludeDirUptoCardSaid : Prop := Claim7.holds Tryz.pinned (.plain (OpenSpec.upto fnIncludeDirSpec)) fnIncludeDirUptoCard

/-- THE SECOND FORM's CARD OF 'laws.FnWrongArgs'. -/
def fnWrongArgsUptoCard : Claim7 := { stood := { row := fnWrongArgsUptoRow, standIns := [], harness := (true, "87cc421b8665daf0e7c92f56c7664320a078d037c9c997ec7a41d91977f35aab"), looks := true }, kinds := [], alts := [], laidByText := true, laidKinds := [.data, .data, .sentinel, .data, .pinned], laidTests := true, laidLooks := .later }
def FnWrongArgsUptoCardSaid : Prop := Claim7.holds Tryz.pinned (.plain (OpenSpec.upto fnWrongArgsSpec)) fnWrongArgsUptoCard

/-- THE SECOND FORM's CARD OF 'laws.FnWrongEnd'. -/
def fnWrongEndUptoCard : Claim7 := { stood := { row := fnWrongEndUptoRow, standIns := [], harness := (true, "87cc421b8665daf0e7c92f56c7664320a078d037c9c997ec7a41d91977f35aab"), looks := true }, kinds := [], alts := [], laidByText := true, laidKinds := [.data, .data, .sentinel, .data, .pinned], laidTests := true, laidLooks := .later }
def FnWrongEndUptoCardSaid : Prop := Claim7.holds Tryz.pinned (.plain (OpenSpec.upto fnWrongEndSpec)) fnWrongEndUptoCard

/-- THE SECOND FORM's CARD OF 'laws.FnWrongFile'. -/
def fnWrongFileUptoCard : Claim7 := { stood := { row := fnWrongFileUptoRow, standIns := [], harness := (true, "87cc421b8665daf0e7c92f56c7664320a078d037c9c997ec7a41d91977f35aab"), looks := true }, kinds := [], alts := [], laidByText := true, laidKinds := [.data, .data, .sentinel, .data, .pinned], laidTests := true, laidLooks := .later }
def FnWrongFileUptoCardSaid : Prop := Claim7.holds Tryz.pinned (.plain (OpenSpec.upto fnWrongFileSpec)) fnWrongFileUptoCard

/-- THE SECOND FORM's CARD OF 'laws.FnWrongPlace'. -/
def fnWrongPlaceUptoCard : Claim7 := { stood := { row := fnWrongPlaceUptoRow, standIns := [], harness := (true, "87cc421b8665daf0e7c92f56c7664320a078d037c9c997ec7a41d91977f35aab"), looks := true }, kinds := [], alts := [], laidByText := true, laidKinds := [.data, .data, .sentinel, .data, .pinned], laidTests := true, laidLooks := .later }
def FnWrongPlaceUptoCardSaid : Prop := Claim7.holds Tryz.pinned (.plain (OpenSpec.upto fnWrongPlaceSpec)) fnWrongPlaceUptoCard

/-- THE SECOND FORM's CARD OF 'laws.FnWrongTwice'. -/
def fnWrongTwiceUptoCard : Claim7 := { stood := { row := fnWrongTwiceUptoRow, standIns := [], harness := (true, "87cc421b8665daf0e7c92f56c7664320a078d037c9c997ec7a41d91977f35aab"), looks := true }, kinds := [], alts := [], laidByText := true, laidKinds := [.data, .data, .sentinel, .data, .pinned], laidTests := true, laidLooks := .later }
def FnWrongTwiceUptoCardSaid : Prop := Claim7.holds Tryz.pinned (.plain (OpenSpec.upto fnWrongTwiceSpec)) fnWrongTwiceUptoCard
end Rows
end Go.Proofs.YthaelfafmnbjgaaGreatDoor
