/-
  DERIVED. GIVEN WITH THE SEED: THE CARDS: each row of YtlbnemnadegapaaGreatDoorRows.lean that lists a variable, with what it lists TIED to the program's text (the seventh form; the later family's looks); each row that meets fmt, with fmt's text TOLD by the authors' own Lean function (tested against real Go, not proved from fmt's source: count such statements apart). THE CARD IS WHAT COUNTS. Prove the row's statement (the work); the ties are given (YtlbnemnadegapaaGreatDoorTie.lean); close each card by the builder's one call (the guide's Derived/Test/ToyasCard.lean, 'card_holds'). Laid BY PROGRAM, IN A SANDBOX (cutbox-door.mjs). By AI agents, Wed Nov 11 2026. No macro, syntax, notation, axiom, sorry.
-/
import Derived.Test.YtlbnemnadegapaaGreatDoorRows
import GoSem.ClaimSeven
namespace Go.Proofs.YtlbnemnadegapaaGreatDoor
namespace Rows

/-- THE TIED CARD OF 'laws.FnKeySet'. -/
def fnKeySetCard : Claim7 := { stood := { row := fnKeySetRow, standIns := [], harness := (true, "a5f00549b86f2f2618a15fca821b169af3cd6112e0c149301cf45689c1f7891b"), looks := true }, kinds := [], alts := [], laidByText := true, laidKinds := [.sentinel], laidTests := true, laidLooks := .later }
def FnKeySetCardSaid : Prop := Claim7.holds Tryz.pinned (.plain (OpenSpec.ofChange fnKeySetSpec)) fnKeySetCard

/-- THE SECOND FORM's CARD OF 'laws.FnKeySet'. -/
def fnKeySetUptoCard : Claim7 := { stood := { row := fnKeySetUptoRow, standIns := [], harness := (true, "a5f00549b86f2f2618a15fca821b169af3cd6112e0c149301cf45689c1f7891b"), looks := true }, kinds := [], alts := [], laidByText := true, laidKinds := [.sentinel], laidTests := true, laidLooks := .later }
def FnKeySetUptoCardSaid : Prop := Claim7.holds Tryz.pinned (.plain (OpenSpec.upto fnKeySetSpec)) fnKeySetUptoCard
end Rows
end Go.Proofs.YtlbnemnadegapaaGreatDoor
