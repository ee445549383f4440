/-
  DERIVED. GIVEN WITH THE SEED: THE CARDS: each row of YtbmeegkgcipmoaaDoorRows.lean that lists a variable, with what it lists TIED to the program's text (the seventh form; the later family's looks); each row that meets fmt, with fmt's text TOLD by the authors' own Lean function (tested against real Go, not proved from fmt's source: count such statements apart). THE CARD IS WHAT COUNTS. Prove the row's statement (the work); the ties are given (YtbmeegkgcipmoaaDoorTie.lean); close each card by the builder's one call (the guide's Derived/Test/ToyasCard.lean, 'card_holds'). Laid BY PROGRAM, IN A SANDBOX (cutbox-door.mjs). By AI agents, Wed Nov 11 2026. No macro, syntax, notation, axiom, sorry.
-/
import Derived.Test.YtbmeegkgcipmoaaDoorRows
import GoSem.ClaimSeven
namespace Go.Proofs.YtbmeegkgcipmoaaDoor
namespace Rows

/-- THE TIED CARD OF 'laws.FnBitsSet'. -/
def fnBitsSetCard : Claim7 := { stood := { row := fnBitsSetRow, standIns := [], harness := (true, "57f2e1733f41b31465bcbdf4b9e4b4db28f283f995980f2df7e8ba83205db983"), looks := true }, kinds := [], alts := [], laidByText := true, laidKinds := [.data, .pinned], laidTests := true, laidLooks := .later }
def FnBitsSetCardSaid : Prop := Claim7.holds Tryd.pinned (.plain (OpenSpec.ofChange fnBitsSetSpec)) fnBitsSetCard

/-- THE TIED CARD OF 'laws.FnCidSafeFirst'. -/
def fnCidSafeFirstCard : Claim7 := { stood := { row := fnCidSafeFirstRow, standIns := [], harness := (true, "57f2e1733f41b31465bcbdf4b9e4b4db28f283f995980f2df7e8ba83205db983"), looks := true }, kinds := [], alts := [], laidByText := true, laidKinds := [.sentinel, .sentinel, .sentinel, .sentinel, .sentinel, .sentinel, .data, .sentinel, .sentinel, .sentinel], laidTests := true, laidLooks := .later }
def FnCidSafeFirstCardSaid : Prop := Claim7.holds Tryd.pinned (.plain (OpenSpec.ofChange fnCidSafeFirstSpec)) fnCidSafeFirstCard

/-- THE SECOND FORM's CARD OF 'laws.FnBitsSet'. -/
def fnBitsSetUptoCard : Claim7 := { stood := { row := fnBitsSetUptoRow, standIns := [], harness := (true, "57f2e1733f41b31465bcbdf4b9e4b4db28f283f995980f2df7e8ba83205db983"), looks := true }, kinds := [], alts := [], laidByText := true, laidKinds := [.data, .pinned], laidTests := true, laidLooks := .later }
def FnBitsSetUptoCardSaid : Prop := Claim7.holds Tryd.pinned (.plain (OpenSpec.upto fnBitsSetSpec)) fnBitsSetUptoCard

/-- THE SECOND FORM's CARD OF 'laws.FnCidSafeFirst'. -/
def fnCidSafeFirstUptoCard : Claim7 := { stood := { row := fnCidSafeFirstUptoRow, standIns := [], harness := (true, "57f2e1733f41b31465bcbdf4b9e4b4db28f283f995980f2df7e8ba83205db983"), looks := true }, kinds := [], alts := [], laidByText := true, laidKinds := [.sentinel, .sentinel, .sentinel, .sentinel, .sentinel, .sentinel, .data, .sentinel, .sentinel, .sentinel], laidTests := true, laidLooks := .later }
def FnCidSafeFirstUptoCardSaid : Prop := Claim7.holds Tryd.pinned (.plain (OpenSpec.upto fnCidSafeFirstSpec)) fnCidSafeFirstUptoCard
end Rows
end Go.Proofs.YtbmeegkgcipmoaaDoor
