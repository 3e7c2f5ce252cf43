/- What steps give is told by the places of keys alone. -/
import Derived.Test.YtlbnemnadegapaaDoorKyPlain
set_option linter.unusedVariables false
set_option linter.unusedSimpArgs false
namespace Go.Proofs.YtlbnemnadegapaaDoor.Ky
open Go.RowKit Go.Proofs.YtlbnemnadegapaaDoor.K Go.Proofs.YtlbnemnadegapaaDoor.Nm
def Hd (ds : List KD) (t : ByteArray) (z : Int) : Bool := match (match ds[z.toNat]? with | some d => idOf d | none => none) with | some s => s.toList == t.toList | none => false
theorem run_anew {Ks : List Nat} {ds : List KD} {ss : List ST} (hn : Ks.Nodup) (hk : ∀ s ∈ ss, ∃ i : Nat, s.key = (i : Nat) ∧ i < Ks.length) : runB Ks (idB Ks ds) [] ss = runS (Hd ds) [] ss :=
  run_eq hn (fun t x hx => rfl) ss [] ⟨List.nodup_nil, fun x hx => by simp at hx⟩ hk
end Go.Proofs.YtlbnemnadegapaaDoor.Ky
