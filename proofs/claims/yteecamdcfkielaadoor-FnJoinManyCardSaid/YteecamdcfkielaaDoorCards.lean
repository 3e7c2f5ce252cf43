/-
  DERIVED. GIVEN WITH THE SEED: THE CARDS: each row of YteecamdcfkielaaDoorRows.lean that lists a variable, with what it lists TIED to the program's text (the seventh form; the later family's looks); each row that meets fmt, with fmt's text TOLD by the authors' own Lean function (tested against real Go, not proved from fmt's source: count such statements apart). THE CARD IS WHAT COUNTS. Prove the row's statement (the work); the ties are given (YteecamdcfkielaaDoorTie.lean); close each card by the builder's one call (the guide's Derived/Test/ToyasCard.lean, 'card_holds'). Laid BY PROGRAM, IN A SANDBOX (cutbox-door.mjs). By AI agents, Wed Nov 11 2026. No macro, syntax, notation, axiom, sorry.
-/
import Derived.Test.YteecamdcfkielaaDoorRows
import GoSem.ClaimSeven
namespace Go.Proofs.YteecamdcfkielaaDoor
namespace Rows

/-- THE TIED CARD OF 'laws.FnJoinMany'. -/
def fnJoinManyCard : Claim7 := { stood := { row := fnJoinManyRow, standIns := [], harness := (true, "fcd5ee47e96b2c62d667921e4ab1dedaaa405978f0aa5cb8c0d09393e9a5b4d8"), looks := false }, kinds := [], alts := [], laidByText := true, laidKinds := [.sentinel], laidTests := true, laidLooks := .later }
def FnJoinManyCardSaid : Prop := Claim7.holds Tryd.pinned (.plain (OpenSpec.ofChange fnJoinManySpec)) fnJoinManyCard

/-- THE SECOND FORM's CARD OF 'laws.FnJoinMany'. -/
def fnJoinManyUptoCard : Claim7 := { stood := { row := fnJoinManyUptoRow, standIns := [], harness := (true, "fcd5ee47e96b2c62d667921e4ab1dedaaa405978f0aa5cb8c0d09393e9a5b4d8"), looks := false }, kinds := [], alts := [], laidByText := true, laidKinds := [.sentinel], laidTests := true, laidLooks := .later }
def FnJoinManyUptoCardSaid : Prop := Claim7.holds Tryd.pinned (.plain (OpenSpec.upto fnJoinManySpec)) fnJoinManyUptoCard
end Rows
end Go.Proofs.YteecamdcfkielaaDoor
