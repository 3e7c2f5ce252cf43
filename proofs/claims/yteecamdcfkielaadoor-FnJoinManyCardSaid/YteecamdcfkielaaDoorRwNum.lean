/- How an argument that is a slice of uint64 is opened. -/
import Derived.Test.YteecamdcfkielaaDoorRwArr
set_option linter.unusedVariables false
set_option linter.unusedSimpArgs false
namespace Go.Proofs.YteecamdcfkielaaDoor.Rw
open Go.ChangeShapes Go.WideShapes Go.ChangeAt Go.RowKit Go.Proofs.YteecamdcfkielaaDoor.K Go.Proofs.YteecamdcfkielaaDoor.Own
section
variable {H : Type} {enc : TypeId × Value → H} {P : Program} {W : World} {base : Nat} {spare : Nat → Bool} {held : Bool} {s e : TypeId} {u : Value} {fuel : Nat} {x : DataW H × List MemPlace}
theorem open_u64s (hu : P.underlying s = some (.slice e)) (he : P.underlying e = some (.int .u64)) (hc : P.cellsOf e = 1)
    (h : DataW.trod enc P W base spare held fuel s [u] = some x) :
    ∃ (a : Option Addr) (len cap : Nat) (zs : List Nat), u = .slice a len cap ∧ Reads W 1 a len (zs.map fun z => .int .u64 (z : Nat)) ∧ (∀ z ∈ zs, z < 18446744073709551616) ∧ len ≤ cap := by
  rcases open_ints hu he hc h with ⟨hcs, _⟩ | ⟨y, l, c, zs, hcs, _, hl, hm, hz, hx, hcell, hwz⟩
  · obtain rfl := List.head_eq_of_cons_eq hcs
    exact ⟨none, 0, 0, [], rfl, Reads.none_, (by intro z hz; cases hz), Nat.le_refl _⟩
  · obtain rfl := List.head_eq_of_cons_eq hcs
    have hl2 : l ≤ zs.length := by
      rw [hz]
      split
      · exact hl
      · exact Nat.le_refl _
    refine ⟨some y, l, c, (zs.take l).map Int.toNat, rfl, ⟨by simp; omega, fun h0 => ⟨y, rfl, ?_, fun i u hu => ?_⟩⟩, ?_, hl⟩
    · have := World.block_lt_of_cell? W _ (hcell 0 (by omega))
      rwa [block_of_add] at this
    · have hi : i < l := by
        have := (List.getElem?_eq_some_iff.1 hu).1
        simp at this
        omega
      have hb := bounds_u64 (hwz zs[i] (List.getElem_mem (by omega)))
      rw [hcell i (by omega)]
      simp only [List.map_map, List.getElem?_map, List.getElem?_take, if_pos hi, List.getElem?_eq_getElem (show i < zs.length by omega), Option.map_some, Function.comp] at hu
      rw [← hu]
      congr 2
      simp only [List.getD_eq_getElem?_getD, List.getElem?_eq_getElem (show i < zs.length by omega), Option.getD_some]
      omega
    · intro z hzm
      obtain ⟨n, hn, rfl⟩ := List.mem_map.1 hzm
      have hb := bounds_u64 (hwz n (List.mem_of_mem_take hn))
      omega
end
end Go.Proofs.YteecamdcfkielaaDoor.Rw
