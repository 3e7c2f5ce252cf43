/-
  DERIVED. GIVEN WITH THE SEED: THE PROGRAM's TIES (one call each: nine closed facts by the kernel) AND EACH ROW's TIE, after the 31st guide's Derived/Test/Toyas{Tie, Card}.lean. No idea stands in it: it is a product of the set-up. Laid BY PROGRAM, IN A SANDBOX (cutbox-door.mjs). By AI agents, Wed Nov 11 2026. No macro, syntax, notation, axiom, sorry.
-/
import Derived.Test.YtlbnemnadegapaaDoorRows
import Derived.LaidByTextLater
import Derived.SevenTiedAt
import Derived.LaidSub
import Derived.LaidOnce
namespace Go.Proofs.YtlbnemnadegapaaDoor
open Go
set_option maxRecDepth 100000
theorem seatTie1 : Tryd.prog.laidByTextLater [("pub-bullarium/pub/jwx/jwa.errInvalidKeyAlgorithm", Rows.laid_pub_bullarium_pub_jwx_jwa_errInvalidKeyAlgorithm)] [.sentinel] true :=
  Program.laidByTextLater_by_one 28 8 2 (by kernel_rfl) (by kernel_rfl) (by kernel_rfl) (by kernel_rfl) (by kernel_rfl) (by kernel_rfl) (fun _ _ => by kernel_rfl)
theorem noOwnUnsafe : Tryd.pinned.checked.prog.headLifts.contains "ownunsafe" = false := by kernel_rfl
theorem tie : Tryd.prog.laidByTextLater [("pub-bullarium/pub/jwx/jwa.errInvalidKeyAlgorithm", Rows.laid_pub_bullarium_pub_jwx_jwa_errInvalidKeyAlgorithm)] [.sentinel] true :=
  Program.laidByTextLater.sub seatTie1 ["pub-bullarium/pub/jwx/jwa.errInvalidKeyAlgorithm"] (by kernel_rfl) (by kernel_rfl)
theorem fnKeyFields_row_tie : Rows.fnKeyFieldsRow.laidByTextAt .later Tryd.pinned [.sentinel] true :=
  OpenClaim.laidByTextAt_later rfl rfl tie noOwnUnsafe
theorem fnKeyFieldNames_row_tie : Rows.fnKeyFieldNamesRow.laidByTextAt .later Tryd.pinned [.sentinel] true :=
  OpenClaim.laidByTextAt_later rfl rfl tie noOwnUnsafe
theorem fnKeySetIndex_row_tie : Rows.fnKeySetIndexRow.laidByTextAt .later Tryd.pinned [.sentinel] true :=
  OpenClaim.laidByTextAt_later rfl rfl tie noOwnUnsafe
theorem fnKeySetApart_row_tie : Rows.fnKeySetApartRow.laidByTextAt .later Tryd.pinned [.sentinel] true :=
  OpenClaim.laidByTextAt_later rfl rfl tie noOwnUnsafe
theorem fnKeyFieldsUpto_row_tie : Rows.fnKeyFieldsUptoRow.laidByTextAt .later Tryd.pinned [.sentinel] true :=
  OpenClaim.laidByTextAt_later rfl rfl tie noOwnUnsafe
theorem fnKeyFieldNamesUpto_row_tie : Rows.fnKeyFieldNamesUptoRow.laidByTextAt .later Tryd.pinned [.sentinel] true :=
  OpenClaim.laidByTextAt_later rfl rfl tie noOwnUnsafe
theorem fnKeySetIndexUpto_row_tie : Rows.fnKeySetIndexUptoRow.laidByTextAt .later Tryd.pinned [.sentinel] true :=
  OpenClaim.laidByTextAt_later rfl rfl tie noOwnUnsafe
theorem fnKeySetApartUpto_row_tie : Rows.fnKeySetApartUptoRow.laidByTextAt .later Tryd.pinned [.sentinel] true :=
  OpenClaim.laidByTextAt_later rfl rfl tie noOwnUnsafe
end Go.Proofs.YtlbnemnadegapaaDoor
