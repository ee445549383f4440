/-
  DERIVED. GIVEN WITH THE SEED: THE CARDS: each row of YteekkpofcbcikaaDoorRows.lean that lists a variable, with what it lists TIED to the program's text (the seventh form; the later family's looks); each row that meets fmt, with fmt's text TOLD by the authors' own Lean function (tested against real Go, not proved from fmt's source: count such statements apart). THE CARD IS WHAT COUNTS. Prove the row's statement (the work); the ties are given (YteekkpofcbcikaaDoorTie.lean); close each card by the builder's one call (the guide's Derived/Test/ToyasCard.lean, 'card_holds'). Laid BY PROGRAM, IN A SANDBOX (cutbox-door.mjs). By AI agents, Wed Nov 11 2026. No macro, syntax, notation, axiom, sorry.
-/
import Derived.Test.YteekkpofcbcikaaDoorRows
import GoSem.ClaimSeven
namespace Go.Proofs.YteekkpofcbcikaaDoor
namespace Rows

/-- THE TIED CARD OF 'laws.FnWantedAgain'. -/
def fnWantedAgainCard : Claim7 := { stood := { row := fnWantedAgainRow, standIns := [], harness := (true, "ee9e7e912b891e5c725a1aabedd085008fb4031535a8744a7f64d89c73a96e6e"), looks := false }, kinds := [], alts := [], laidByText := true, laidKinds := [.sentinel, .sentinel, .sentinel, .sentinel, .sentinel, .sentinel], laidTests := true, laidLooks := .later }
def FnWantedAgainCardSaid : Prop := Claim7.holds Tryd.pinned (.plain (OpenSpec.ofChange fnWantedAgainSpec)) fnWantedAgainCard

/-- THE TIED CARD OF 'laws.FnWanted'. -/
def fnWantedCard : Claim7 := { stood := { row := fnWantedRow, standIns := [], harness := (true, "ee9e7e912b891e5c725a1aabedd085008fb4031535a8744a7f64d89c73a96e6e"), looks := false }, kinds := [], alts := [], laidByText := true, laidKinds := [.sentinel, .sentinel, .sentinel, .sentinel, .sentinel, .sentinel], laidTests := true, laidLooks := .later }
def FnWantedCardSaid : Prop := Claim7.holds Tryd.pinned (.plain (OpenSpec.ofChange fnWantedSpec)) fnWantedCard

/-- THE TIED CARD OF 'laws.FnMsgBack'. -/
def fnMsgBackCard : Claim7 := { stood := { row := fnMsgBackRow, standIns := [], harness := (true, "ee9e7e912b891e5c725a1aabedd085008fb4031535a8744a7f64d89c73a96e6e"), looks := false }, kinds := [], alts := [], laidByText := true, laidKinds := [.sentinel, .sentinel, .sentinel, .sentinel, .sentinel, .sentinel, .sentinel, .sentinel, .sentinel, .sentinel], laidTests := true, laidLooks := .later }
def FnMsgBackCardSaid : Prop := Claim7.holds Tryd.pinned (.plain (OpenSpec.ofChange fnMsgBackSpec)) fnMsgBackCard

/-- THE TIED CARD OF 'laws.FnMsgReadBack'. -/
def fnMsgReadBackCard : Claim7 := { stood := { row := fnMsgReadBackRow, standIns := [], harness := (true, "ee9e7e912b891e5c725a1aabedd085008fb4031535a8744a7f64d89c73a96e6e"), looks := false }, kinds := [], alts := [], laidByText := true, laidKinds := [.sentinel, .sentinel, .sentinel, .sentinel, .sentinel, .sentinel, .sentinel, .sentinel, .sentinel, .sentinel], laidTests := true, laidLooks := .later }
def FnMsgReadBackCardSaid : Prop := Claim7.holds Tryd.pinned (.plain (OpenSpec.ofChange fnMsgReadBackSpec)) fnMsgReadBackCard

/-- THE SECOND FORM's CARD OF 'laws.FnWantedAgain'. -/
def fnWantedAgainUptoCard : Claim7 := { stood := { row := fnWantedAgainUptoRow, standIns := [], harness := (true, "ee9e7e912b891e5c725a1aabedd085008fb4031535a8744a7f64d89c73a96e6e"), looks := false }, kinds := [], alts := [], laidByText := true, laidKinds := [.sentinel, .sentinel, .sentinel, .sentinel, .sentinel, .sentinel], laidTests := true, laidLooks := .later }
def FnWantedAgainUptoCardSaid : Prop := Claim7.holds Tryd.pinned (.plain (OpenSpec.upto fnWantedAgainSpec)) fnWantedAgainUptoCard

/-- THE SECOND FORM's CARD OF 'laws.FnWanted'. -/
def fnWantedUptoCard : Claim7 := { stood := { row := fnWantedUptoRow, standIns := [], harness := (true, "ee9e7e912b891e5c725a1aabedd085008fb4031535a8744a7f64d89c73a96e6e"), looks := false }, kinds := [], alts := [], laidByText := true, laidKinds := [.sentinel, .sentinel, .sentinel, .sentinel, .sentinel, .sentinel], laidTests := true, laidLooks := .later }
def FnWantedUptoCardSaid : Prop := Claim7.holds Tryd.pinned (.plain (OpenSpec.upto fnWantedSpec)) fnWantedUptoCard

/-- THE SECOND FORM's CARD OF 'laws.FnMsgBack'. -/
def fnMsgBackUptoCard : Claim7 := { stood := { row := fnMsgBackUptoRow, standIns := [], harness := (true, "ee9e7e912b891e5c725a1aabedd085008fb4031535a8744a7f64d89c73a96e6e"), looks := false }, kinds := [], alts := [], laidByText := true, laidKinds := [.sentinel, .sentinel, .sentinel, .sentinel, .sentinel, .sentinel, .sentinel, .sentinel, .sentinel, .sentinel], laidTests := true, laidLooks := .later }
def FnMsgBackUptoCardSaid : Prop := Claim7.holds Tryd.pinned (.plain (OpenSpec.upto fnMsgBackSpec)) fnMsgBackUptoCard

/-- THE SECOND FORM's CARD OF 'laws.FnMsgReadBack'. -/
def fnMsgReadBackUptoCard : Claim7 := { stood := { row := fnMsgReadBackUptoRow, standIns := [], harness := (true, "ee9e7e912b891e5c725a1aabedd085008fb4031535a8744a7f64d89c73a96e6e"), looks := false }, kinds := [], alts := [], laidByText := true, laidKinds := [.sentinel, .sentinel, .sentinel, .sentinel, .sentinel, .sentinel, .sentinel, .sentinel, .sentinel, .sentinel], laidTests := true, laidLooks := .later }
def FnMsgReadBackUptoCardSaid : Prop := Claim7.holds Tryd.pinned (.plain (OpenSpec.upto fnMsgReadBackSpec)) fnMsgReadBackUptoCard
end Rows
end Go.Proofs.YteekkpofcbcikaaDoor
