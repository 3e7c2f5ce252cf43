/-
  DERIVED. GIVEN WITH THE SEED: THE CARDS: each row of YtlbnemnadegapaaDoorRows.lean that lists a variable, with what it lists TIED to the program's text (the seventh form; the later family's looks); each row that meets fmt, with fmt's text TOLD by the authors' own Lean function (tested against real Go, not proved from fmt's source: count such statements apart). THE CARD IS WHAT COUNTS. Prove the row's statement (the work); the ties are given (YtlbnemnadegapaaDoorTie.lean); close each card by the builder's one call (the guide's Derived/Test/ToyasCard.lean, 'card_holds'). Laid BY PROGRAM, IN A SANDBOX (cutbox-door.mjs). By AI agents, Wed Nov 11 2026. No macro, syntax, notation, axiom, sorry.
-/
import Derived.Test.YtlbnemnadegapaaDoorRows
import GoSem.ClaimSeven
namespace Go.Proofs.YtlbnemnadegapaaDoor
namespace Rows

/-- THE TIED CARD OF 'laws.FnKeyFields'. -/
def fnKeyFieldsCard : Claim7 := { stood := { row := fnKeyFieldsRow, standIns := [], harness := (true, "3dafcdd4d2cbffdc0836b156b53c41890ddd48b6a02fc3031a6326a447e3d4ae"), looks := true }, kinds := [], alts := [], laidByText := true, laidKinds := [.sentinel], laidTests := true, laidLooks := .later }
def FnKeyFieldsCardSaid : Prop := Claim7.holds Tryd.pinned (.plain (OpenSpec.ofChange fnKeyFieldsSpec)) fnKeyFieldsCard

/-- THE TIED CARD OF 'laws.FnKeyFieldNames'. -/
def fnKeyFieldNamesCard : Claim7 := { stood := { row := fnKeyFieldNamesRow, standIns := [], harness := (true, "3dafcdd4d2cbffdc0836b156b53c41890ddd48b6a02fc3031a6326a447e3d4ae"), looks := true }, kinds := [], alts := [], laidByText := true, laidKinds := [.sentinel], laidTests := true, laidLooks := .later }
def FnKeyFieldNamesCardSaid : Prop := Claim7.holds Tryd.pinned (.plain (OpenSpec.ofChange fnKeyFieldNamesSpec)) fnKeyFieldNamesCard

/-- THE TIED CARD OF 'laws.FnKeySetIndex'. -/
def fnKeySetIndexCard : Claim7 := { stood := { row := fnKeySetIndexRow, standIns := [], harness := (true, "3dafcdd4d2cbffdc0836b156b53c41890ddd48b6a02fc3031a6326a447e3d4ae"), looks := true }, kinds := [], alts := [], laidByText := true, laidKinds := [.sentinel], laidTests := true, laidLooks := .later }
def FnKeySetIndexCardSaid : Prop := Claim7.holds Tryd.pinned (.plain (OpenSpec.ofChange fnKeySetIndexSpec)) fnKeySetIndexCard

/-- THE TIED CARD OF 'laws.FnKeySetApart'. -/
def fnKeySetApartCard : Claim7 := { stood := { row := fnKeySetApartRow, standIns := [], harness := (true, "3dafcdd4d2cbffdc0836b156b53c41890ddd48b6a02fc3031a6326a447e3d4ae"), looks := true }, kinds := [], alts := [], laidByText := true, laidKinds := [.sentinel], laidTests := true, laidLooks := .later }
def FnKeySetApartCardSaid : Prop := Claim7.holds Tryd.pinned (.plain (OpenSpec.ofChange fnKeySetApartSpec)) fnKeySetApartCard

/-- THE SECOND FORM's CARD OF 'laws.FnKeyFields'. -/
def fnKeyFieldsUptoCard : Claim7 := { stood := { row := fnKeyFieldsUptoRow, standIns := [], harness := (true, "3dafcdd4d2cbffdc0836b156b53c41890ddd48b6a02fc3031a6326a447e3d4ae"), looks := true }, kinds := [], alts := [], laidByText := true, laidKinds := [.sentinel], laidTests := true, laidLooks := .later }
def FnKeyFieldsUptoCardSaid : Prop := Claim7.holds Tryd.pinned (.plain (OpenSpec.upto fnKeyFieldsSpec)) fnKeyFieldsUptoCard

/-- THE SECOND FORM's CARD OF 'laws.FnKeyFieldNames'. -/
def fnKeyFieldNamesUptoCard : Claim7 := { stood := { row := fnKeyFieldNamesUptoRow, standIns := [], harness := (true, "3dafcdd4d2cbffdc0836b156b53c41890ddd48b6a02fc3031a6326a447e3d4ae"), looks := true }, kinds := [], alts := [], laidByText := true, laidKinds := [.sentinel], laidTests := true, laidLooks := .later }
def FnKeyFieldNamesUptoCardSaid : Prop := Claim7.holds Tryd.pinned (.plain (OpenSpec.upto fnKeyFieldNamesSpec)) fnKeyFieldNamesUptoCard

/-- THE SECOND FORM's CARD OF 'laws.FnKeySetIndex'. -/
def fnKeySetIndexUptoCard : Claim7 := { stood := { row := fnKeySetIndexUptoRow, standIns := [], harness := (true, "3dafcdd4d2cbffdc0836b156b53c41890ddd48b6a02fc3031a6326a447e3d4ae"), looks := true }, kinds := [], alts := [], laidByText := true, laidKinds := [.sentinel], laidTests := true, laidLooks := .later }
def FnKeySetIndexUptoCardSaid : Prop := Claim7.holds Tryd.pinned (.plain (OpenSpec.upto fnKeySetIndexSpec)) fnKeySetIndexUptoCard

/-- THE SECOND FORM's CARD OF 'laws.FnKeySetApart'. -/
def fnKeySetApartUptoCard : Claim7 := { stood := { row := fnKeySetApartUptoRow, standIns := [], harness := (true, "3dafcdd4d2cbffdc0836b156b53c41890ddd48b6a02fc3031a6326a447e3d4ae"), looks := true }, kinds := [], alts := [], laidByText := true, laidKinds := [.sentinel], laidTests := true, laidLooks := .later }
def FnKeySetApartUptoCardSaid : Prop := Claim7.holds Tryd.pinned (.plain (OpenSpec.upto fnKeySetApartSpec)) fnKeySetApartUptoCard
end Rows
end Go.Proofs.YtlbnemnadegapaaDoor
