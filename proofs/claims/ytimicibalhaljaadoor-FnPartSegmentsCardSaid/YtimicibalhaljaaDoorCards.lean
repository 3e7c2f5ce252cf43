/-
  DERIVED. GIVEN WITH THE SEED: THE CARDS: each row of YtimicibalhaljaaDoorRows.lean that lists a variable, with what it lists TIED to the program's text (the seventh form; the later family's looks); each row that meets fmt, with fmt's text TOLD by the authors' own Lean function (tested against real Go, not proved from fmt's source: count such statements apart). THE CARD IS WHAT COUNTS. Prove the row's statement (the work); the ties are given (YtimicibalhaljaaDoorTie.lean); close each card by the builder's one call (the guide's Derived/Test/ToyasCard.lean, 'card_holds'). Laid BY PROGRAM, IN A SANDBOX (cutbox-door.mjs). By AI agents, Wed Nov 11 2026. No macro, syntax, notation, axiom, sorry.
-/
import Derived.Test.YtimicibalhaljaaDoorRows
import GoSem.ClaimSeven
namespace Go.Proofs.YtimicibalhaljaaDoor
namespace Rows

/-- THE TIED CARD OF 'laws.FnPartSegments'. -/
def fnPartSegmentsCard : Claim7 := { stood := { row := fnPartSegmentsRow, standIns := [], harness := (true, "fe4264fff97232583528d31c8aaa5a8a7d0f1cd7ad6412c29d12f12304467b11"), looks := false }, kinds := [], alts := [], laidByText := true, laidKinds := [.sentinel], laidTests := true, laidLooks := .later }
def FnPartSegmentsCardSaid : Prop := Claim7.holds Tryd.pinned (.plain (OpenSpec.ofChange fnPartSegmentsSpec)) fnPartSegmentsCard

/-- THE SECOND FORM's CARD OF 'laws.FnPartSegments'. -/
def fnPartSegmentsUptoCard : Claim7 := { stood := { row := fnPartSegmentsUptoRow, standIns := [], harness := (true, "fe4264fff97232583528d31c8aaa5a8a7d0f1cd7ad6412c29d12f12304467b11"), looks := false }, kinds := [], alts := [], laidByText := true, laidKinds := [.sentinel], laidTests := true, laidLooks := .later }
def FnPartSegmentsUptoCardSaid : Prop := Claim7.holds Tryd.pinned (.plain (OpenSpec.upto fnPartSegmentsSpec)) fnPartSegmentsUptoCard
end Rows
end Go.Proofs.YtimicibalhaljaaDoor
