/- What steps give is told by the places of keys alone. -/
import Derived.Test.YtlbnemnadegapaaGreatDoorKyPlain
set_option linter.unusedVariables false
set_option linter.unusedSimpArgs false
namespace Go.Proofs.YtlbnemnadegapaaGreatDoor.Ky
open Go.RowKit Go.Proofs.YtlbnemnadegapaaGreatDoor.K Go.Proofs.YtlbnemnadegapaaGreatDoor.Nm
def Hd (ds : List KD) (t : ByteArray) (z : Int) : Bool := match (match ds[z.toNat]? with | some d => idOf d | none => none) with | some s => s.toList == t.toList | none => false
theorem run_anew {Ks : List Nat} {ds : List KD} {ss : List ST} (hn : Ks.Nodup) (hk : ∀ s ∈ ss, ∃ i : Nat, s.key = (i : Nat) ∧ i < Ks.length) : runB Ks (idB Ks ds) [] ss = runS (Hd ds) [] ss :=
  run_eq hn (fun t x hx => rfl) ss [] ⟨List.nodup_nil, fun x hx => by simp at hx⟩ hk
section
variable {Ks : List Nat} {ids : Nat → Option ByteArray}
theorem run_few (hn : Ks.Nodup) : ∀ (ss : List ST) (S : List Nat), Sub Ks S → ∀ s ∈ runB Ks ids S ss, s.all.length ≤ Ks.length
  | [], _, _, s, h => by simp [runB] at h
  | t :: r, S, hS, s, h => by
    rw [runB] at h
    rcases List.mem_cons.1 h with rfl | h
    · show (List.map _ _).length ≤ _
      rw [List.length_map]
      exact (stB_sub hS).len
    · exact run_few hn r _ (stB_sub hS) s h
end
end Go.Proofs.YtlbnemnadegapaaGreatDoor.Ky
