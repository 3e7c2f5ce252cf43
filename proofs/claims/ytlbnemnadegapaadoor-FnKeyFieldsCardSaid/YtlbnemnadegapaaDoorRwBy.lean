/- How a slice of bytes is opened (as RwMv's first half; for seats without moves of a set). -/
import Derived.Test.YtlbnemnadegapaaDoorRwS
import Derived.Test.YtlbnemnadegapaaDoorKfMv
set_option maxRecDepth 100000
set_option linter.unusedVariables false
set_option linter.unusedSimpArgs false
namespace Go.Proofs.YtlbnemnadegapaaDoor.Rw
open Go.ChangeShapes Go.WideShapes Go.ChangeAt Go.RowKit Go.Proofs.YtlbnemnadegapaaDoor.K Go.Proofs.YtlbnemnadegapaaDoor.Ky Go.Proofs.YtlbnemnadegapaaDoor.Kf
def toB (zs : List Int) : List UInt8 := zs.map fun z => UInt8.ofNat z.toNat
theorem toB_cell (zs : List Int) (h : ∀ n ∈ zs, (Lit.int .u8 n).wf = true) (i : Nat) (hi : i < zs.length) : (bys (toB zs))[i]? = some (.int .u8 (zs.getD i 0)) := by
  have hb := bounds_u8 (h zs[i] (List.getElem_mem hi))
  simp only [bys, toB, List.map_map, List.getElem?_map, List.getElem?_eq_getElem hi, Option.map_some, List.getD_eq_getElem?_getD, Option.getD_some, Function.comp]
  congr 2
  simp
  omega
section
variable {H : Type} {enc : TypeId × Value → H} {P : Program} {W : World} {base b : Nat} {spare : Nat → Bool} {held : Bool} {t s e : TypeId} {v u : Value} {d : DataW H} {ps : List MemPlace} {r : Reach} {fuel : Nat} {x : DataW H × List MemPlace}
theorem reads_of_ints {zs : List Int} {x : Addr} {n : Nat} (hn : n ≤ zs.length) (hw : ∀ n ∈ zs, (Lit.int .u8 n).wf = true) (hc : ∀ i, i < zs.length → W.cell? (x.add i) = some (.int .u8 (zs.getD i 0))) : Reads W 1 (some x) n (bys ((toB zs).take n)) := by
  have hl : (toB zs).length = zs.length := by simp [toB]
  refine ⟨by rw [bys_length, List.length_take, hl]; omega, fun h0 => ⟨x, rfl, ?_, fun i u hu => ?_⟩⟩
  · have := World.block_lt_of_cell? W _ (hc 0 (by omega))
    rwa [block_of_add] at this
  · have hi : i < n := by
      have := (List.getElem?_eq_some_iff.1 hu).1
      rw [bys_length, List.length_take] at this
      omega
    have e : bys ((toB zs).take n) = (bys (toB zs)).take n := by simp [bys, List.map_take]
    rw [e, List.getElem?_take, if_pos hi, toB_cell zs hw i (by omega)] at hu
    rw [hc i (by omega), ← hu]
theorem open_elem (hu : P.underlying s = some (.slice e)) (he : P.underlying e = some (.int .u8)) (hc : P.cellsOf e = 1)
    (h : DataW.trod enc P W base spare held fuel s [u] = some x) :
    ∃ (a : Option Addr) (len cap : Nat) (l : List UInt8), u = .slice a len cap ∧ Reads W 1 a len (bys l) ∧ len ≤ cap := by
  rcases open_ints hu he hc h with ⟨hcs, _⟩ | ⟨y, l, c, zs, hcs, _, hl, hm, hz, hx, hcell, hwz⟩
  · obtain rfl := List.head_eq_of_cons_eq hcs
    exact ⟨none, 0, 0, [], rfl, Reads.none_, Nat.le_refl _⟩
  · obtain rfl := List.head_eq_of_cons_eq hcs
    have hl2 : l ≤ zs.length := by
      rw [hz]
      split
      · exact hl
      · exact Nat.le_refl _
    exact ⟨some y, l, c, _, rfl, reads_of_ints hl2 hwz hcell, hl⟩
theorem okWide_slice' {w : World} (hu : P.underlying s = some (.slice e)) (hv : Value.okWide P w r b s v) (h : DataW.Trod enc P W base spare held s v d ps) : ∃ (fuel : Nat) (x : DataW H × List MemPlace), DataW.trod enc P W base spare held fuel s [v] = some x := by
  obtain ⟨a, len, cap, rfl⟩ := okWide_slice hu hv
  obtain ⟨fuel, hf⟩ := h
  exact ⟨fuel, _, hf⟩
end
end Go.Proofs.YtlbnemnadegapaaDoor.Rw
