/-
  DERIVED. GIVEN WITH THE SEED: THE CARDS: each row of YtnhnlodmkbiiiaaDoorRows.lean that lists a variable, with what it lists TIED to the program's text (the seventh form; the later family's looks); each row that meets fmt, with fmt's text TOLD by the authors' own Lean function (tested against real Go, not proved from fmt's source: count such statements apart). THE CARD IS WHAT COUNTS. Prove the row's statement (the work); the ties are given (YtnhnlodmkbiiiaaDoorTie.lean); close each card by the builder's one call (the guide's Derived/Test/ToyasCard.lean, 'card_holds'). Laid BY PROGRAM, IN A SANDBOX (cutbox-door.mjs). By AI agents, Wed Nov 11 2026. No macro, syntax, notation, axiom, sorry.
-/
import Derived.Test.YtnhnlodmkbiiiaaDoorRows
import GoSem.ClaimSeven
namespace Go.Proofs.YtnhnlodmkbiiiaaDoor
namespace Rows

/-- THE TIED CARD OF 'laws.FnPbLinkRead'. -/
def fnPbLinkReadCard : Claim7 := { stood := { row := fnPbLinkReadRow, standIns := [], harness := (true, "34b3960af68ab28cfbe01d15db21e3f7e1fc6b82d123fb4e72fd535185829ede"), looks := false }, kinds := [], alts := [], laidByText := true, laidKinds := [.sentinel, .sentinel, .sentinel, .sentinel], laidTests := true, laidLooks := .later }
def FnPbLinkReadCardSaid : Prop := Claim7.holds Tryd.pinned (.plain (OpenSpec.ofChange fnPbLinkReadSpec)) fnPbLinkReadCard

/-- THE TIED CARD OF 'laws.FnPbLinkWrite'. -/
def fnPbLinkWriteCard : Claim7 := { stood := { row := fnPbLinkWriteRow, standIns := [], harness := (true, "34b3960af68ab28cfbe01d15db21e3f7e1fc6b82d123fb4e72fd535185829ede"), looks := false }, kinds := [], alts := [], laidByText := true, laidKinds := [.sentinel, .sentinel, .sentinel, .sentinel], laidTests := true, laidLooks := .later }
def FnPbLinkWriteCardSaid : Prop := Claim7.holds Tryd.pinned (.plain (OpenSpec.ofChange fnPbLinkWriteSpec)) fnPbLinkWriteCard

/-- THE TIED CARD OF 'laws.FnPbJoined'. -/
def fnPbJoinedCard : Claim7 := { stood := { row := fnPbJoinedRow, standIns := [], harness := (true, "34b3960af68ab28cfbe01d15db21e3f7e1fc6b82d123fb4e72fd535185829ede"), looks := false }, kinds := [], alts := [], laidByText := true, laidKinds := [.sentinel, .sentinel, .sentinel, .sentinel], laidTests := true, laidLooks := .later }
def FnPbJoinedCardSaid : Prop := Claim7.holds Tryd.pinned (.plain (OpenSpec.ofChange fnPbJoinedSpec)) fnPbJoinedCard

/-- THE TIED CARD OF 'laws.FnFieldsWrapped'. -/
def fnFieldsWrappedCard : Claim7 := { stood := { row := fnFieldsWrappedRow, standIns := [], harness := (true, "34b3960af68ab28cfbe01d15db21e3f7e1fc6b82d123fb4e72fd535185829ede"), looks := false }, kinds := [], alts := [], laidByText := true, laidKinds := [.sentinel, .sentinel, .sentinel, .sentinel, .sentinel], laidTests := true, laidLooks := .later }
def FnFieldsWrappedCardSaid : Prop := Claim7.holds Tryd.pinned (.plain (OpenSpec.ofChange fnFieldsWrappedSpec)) fnFieldsWrappedCard

/-- THE TIED CARD OF 'laws.FnFieldsWrite'. -/
def fnFieldsWriteCard : Claim7 := { stood := { row := fnFieldsWriteRow, standIns := [], harness := (true, "34b3960af68ab28cfbe01d15db21e3f7e1fc6b82d123fb4e72fd535185829ede"), looks := false }, kinds := [], alts := [], laidByText := true, laidKinds := [.sentinel, .sentinel, .sentinel, .sentinel, .sentinel], laidTests := true, laidLooks := .later }
def FnFieldsWriteCardSaid : Prop := Claim7.holds Tryd.pinned (.plain (OpenSpec.ofChange fnFieldsWriteSpec)) fnFieldsWriteCard

/-- THE TIED CARD OF 'laws.FnFieldsBack'. -/
def fnFieldsBackCard : Claim7 := { stood := { row := fnFieldsBackRow, standIns := [], harness := (true, "34b3960af68ab28cfbe01d15db21e3f7e1fc6b82d123fb4e72fd535185829ede"), looks := false }, kinds := [], alts := [], laidByText := true, laidKinds := [.sentinel, .sentinel, .sentinel, .sentinel, .sentinel], laidTests := true, laidLooks := .later }
def FnFieldsBackCardSaid : Prop := Claim7.holds Tryd.pinned (.plain (OpenSpec.ofChange fnFieldsBackSpec)) fnFieldsBackCard

/-- THE TIED CARD OF 'laws.FnFieldsScript'. -/
def fnFieldsScriptCard : Claim7 := { stood := { row := fnFieldsScriptRow, standIns := [], harness := (true, "34b3960af68ab28cfbe01d15db21e3f7e1fc6b82d123fb4e72fd535185829ede"), looks := false }, kinds := [], alts := [], laidByText := true, laidKinds := [.sentinel, .sentinel, .sentinel, .sentinel, .sentinel], laidTests := true, laidLooks := .later }
def FnFieldsScriptCardSaid : Prop := Claim7.holds Tryd.pinned (.plain (OpenSpec.ofChange fnFieldsScriptSpec)) fnFieldsScriptCard

/-- THE TIED CARD OF 'laws.FnDiffsParted'. -/
def fnDiffsPartedCard : Claim7 := { stood := { row := fnDiffsPartedRow, standIns := [], harness := (true, "34b3960af68ab28cfbe01d15db21e3f7e1fc6b82d123fb4e72fd535185829ede"), looks := false }, kinds := [], alts := [], laidByText := true, laidKinds := [.sentinel, .sentinel, .sentinel, .sentinel, .sentinel, .sentinel], laidTests := true, laidLooks := .later }
def FnDiffsPartedCardSaid : Prop := Claim7.holds Tryd.pinned (.plain (OpenSpec.ofChange fnDiffsPartedSpec)) fnDiffsPartedCard

/-- THE SECOND FORM's CARD OF 'laws.FnPbLinkRead'. -/
def fnPbLinkReadUptoCard : Claim7 := { stood := { row := fnPbLinkReadUptoRow, standIns := [], harness := (true, "34b3960af68ab28cfbe01d15db21e3f7e1fc6b82d123fb4e72fd535185829ede"), looks := false }, kinds := [], alts := [], laidByText := true, laidKinds := [.sentinel, .sentinel, .sentinel, .sentinel], laidTests := true, laidLooks := .later }
def FnPbLinkReadUptoCardSaid : Prop := Claim7.holds Tryd.pinned (.plain (OpenSpec.upto fnPbLinkReadSpec)) fnPbLinkReadUptoCard

/-- THE SECOND FORM's CARD OF 'laws.FnPbLinkWrite'. -/
def fnPbLinkWriteUptoCard : Claim7 := { stood := { row := fnPbLinkWriteUptoRow, standIns := [], harness := (true, "34b3960af68ab28cfbe01d15db21e3f7e1fc6b82d123fb4e72fd535185829ede"), looks := false }, kinds := [], alts := [], laidByText := true, laidKinds := [.sentinel, .sentinel, .sentinel, .sentinel], laidTests := true, laidLooks := .later }
def FnPbLinkWriteUptoCardSaid : Prop := Claim7.holds Tryd.pinned (.plain (OpenSpec.upto fnPbLinkWriteSpec)) fnPbLinkWriteUptoCard

/-- THE SECOND FORM's CARD OF 'laws.FnPbJoined'. -/
def fnPbJoinedUptoCard : Claim7 := { stood := { row := fnPbJoinedUptoRow, standIns := [], harness := (true, "34b3960af68ab28cfbe01d15db21e3f7e1fc6b82d123fb4e72fd535185829ede"), looks := false }, kinds := [], alts := [], laidByText := true, laidKinds := [.sentinel, .sentinel, .sentinel, .sentinel], laidTests := true, laidLooks := .later }
def FnPbJoinedUptoCardSaid : Prop := Claim7.holds Tryd.pinned (.plain (OpenSpec.upto fnPbJoinedSpec)) fnPbJoinedUptoCard

/-- THE SECOND FORM's CARD OF 'laws.FnFieldsWrapped'. -/
def fnFieldsWrappedUptoCard : Claim7 := { stood := { row := fnFieldsWrappedUptoRow, standIns := [], harness := (true, "34b3960af68ab28cfbe01d15db21e3f7e1fc6b82d123fb4e72fd535185829ede"), looks := false }, kinds := [], alts := [], laidByText := true, laidKinds := [.sentinel, .sentinel, .sentinel, .sentinel, .sentinel], laidTests := true, laidLooks := .later }
def FnFieldsWrappedUptoCardSaid : Prop := Claim7.holds Tryd.pinned (.plain (OpenSpec.upto fnFieldsWrappedSpec)) fnFieldsWrappedUptoCard

/-- THE SECOND FORM's CARD OF 'laws.FnFieldsWrite'. -/
def fnFieldsWriteUptoCard : Claim7 := { stood := { row := fnFieldsWriteUptoRow, standIns := [], harness := (true, "34b3960af68ab28cfbe01d15db21e3f7e1fc6b82d123fb4e72fd535185829ede"), looks := false }, kinds := [], alts := [], laidByText := true, laidKinds := [.sentinel, .sentinel, .sentinel, .sentinel, .sentinel], laidTests := true, laidLooks := .later }
def FnFieldsWriteUptoCardSaid : Prop := Claim7.holds Tryd.pinned (.plain (OpenSpec.upto fnFieldsWriteSpec)) fnFieldsWriteUptoCard

/-- THE SECOND FORM's CARD OF 'laws.FnFieldsBack'. -/
def fnFieldsBackUptoCard : Claim7 := { stood := { row := fnFieldsBackUptoRow, standIns := [], harness := (true, "34b3960af68ab28cfbe01d15db21e3f7e1fc6b82d123fb4e72fd535185829ede"), looks := false }, kinds := [], alts := [], laidByText := true, laidKinds := [.sentinel, .sentinel, .sentinel, .sentinel, .sentinel], laidTests := true, laidLooks := .later }
def FnFieldsBackUptoCardSaid : Prop := Claim7.holds Tryd.pinned (.plain (OpenSpec.upto fnFieldsBackSpec)) fnFieldsBackUptoCard

/-- THE SECOND FORM's CARD OF 'laws.FnFieldsScript'. -/
def fnFieldsScriptUptoCard : Claim7 := { stood := { row := fnFieldsScriptUptoRow, standIns := [], harness := (true, "34b3960af68ab28cfbe01d15db21e3f7e1fc6b82d123fb4e72fd535185829ede"), looks := false }, kinds := [], alts := [], laidByText := true, laidKinds := [.sentinel, .sentinel, .sentinel, .sentinel, .sentinel], laidTests := true, laidLooks := .later }
def FnFieldsScriptUptoCardSaid : Prop := Claim7.holds Tryd.pinned (.plain (OpenSpec.upto fnFieldsScriptSpec)) fnFieldsScriptUptoCard

/-- THE SECOND FORM's CARD OF 'laws.FnDiffsParted'. -/
def fnDiffsPartedUptoCard : Claim7 := { stood := { row := fnDiffsPartedUptoRow, standIns := [], harness := (true, "34b3960af68ab28cfbe01d15db21e3f7e1fc6b82d123fb4e72fd535185829ede"), looks := false }, kinds := [], alts := [], laidByText := true, laidKinds := [.sentinel, .sentinel, .sentinel, .sentinel, .sentinel, .sentinel], laidTests := true, laidLooks := .later }
def FnDiffsPartedUptoCardSaid : Prop := Claim7.holds Tryd.pinned (.plain (OpenSpec.upto fnDiffsPartedSpec)) fnDiffsPartedUptoCard
end Rows
end Go.Proofs.YtnhnlodmkbiiiaaDoor
