/- How arguments of bytes are opened: what a row's reading says of them in this seat's words. -/
import Derived.Test.YteecamdcfkielaaDoorOwn
import Derived.ProofKit
import Derived.OpenShut
import Derived.ShutString
import Derived.ChangeOld
import Derived.SizedLaws
import Derived.ChangeSlices
set_option linter.unusedVariables false
set_option linter.unusedSimpArgs false
namespace Go.Proofs.YteecamdcfkielaaDoor.Rw
open Go.ChangeShapes Go.WideShapes Go.ChangeAt Go.RowKit Go.Proofs.YteecamdcfkielaaDoor.K Go.Proofs.YteecamdcfkielaaDoor.Own
open Go.ChangeMaps (open_string shut_string)
theorem own : ownKnob Tryd.prog.godebug = none := by kernel_rfl
theorem laidOut : laidOutB Tryd.prog = true := by kernel_rfl
/-- Numbers as bytes. -/
def toB (zs : List Int) : List UInt8 := zs.map fun z => UInt8.ofNat z.toNat
theorem toB_cell (zs : List Int) (h : ∀ n ∈ zs, (Lit.int .u8 n).wf = true) (i : Nat) (hi : i < zs.length) : (bys (toB zs))[i]? = some (.int .u8 (zs.getD i 0)) := by
  have hm := h zs[i] (List.getElem_mem hi)
  have hb : 0 ≤ zs[i] ∧ zs[i] ≤ 255 := by
    simp only [Lit.wf, IntKind.min, IntKind.max, IntKind.signed, IntKind.bits, Bool.and_eq_true, decide_eq_true_eq] at hm
    simp at hm
    omega
  simp only [bys, toB, List.map_map, List.getElem?_map, List.getElem?_eq_getElem hi, Option.map_some, List.getD_eq_getElem?_getD, Option.getD_some, Function.comp]
  congr 2
  simp
  omega
section
variable {H : Type} {enc : TypeId × Value → H} {P : Program} {W : World} {base b : Nat} {spare : Nat → Bool} {held : Bool} {t e : TypeId} {v : Value} {d : DataW H} {ps : List MemPlace} {ts : List TypeId} {ds : List (DataW H)} {j : Nat} {r : Reach}
theorem reads_of_ints {zs : List Int} {x : Addr} {n : Nat} (hn : n ≤ zs.length) (hw : ∀ n ∈ zs, (Lit.int .u8 n).wf = true) (hc : ∀ i, i < zs.length → W.cell? (x.add i) = some (.int .u8 (zs.getD i 0))) : RB W (some x) n ((toB zs).take n) := by
  have hl : (toB zs).length = zs.length := by simp [toB]
  refine ⟨by rw [bys_length, List.length_take, hl]; omega, fun h0 => ⟨x, rfl, ?_, fun i u hu => ?_⟩⟩
  · have := World.block_lt_of_cell? W _ (hc 0 (by omega))
    rwa [block_of_add] at this
  · have hi : i < n := by
      have := (List.getElem?_eq_some_iff.1 hu).1
      rw [bys_length, List.length_take] at this
      omega
    have e : bys ((toB zs).take n) = (bys (toB zs)).take n := by simp [bys, List.map_take]
    rw [e, List.getElem?_take, if_pos hi, toB_cell zs hw i (by omega)] at hu
    rw [hc i (by omega), ← hu]
theorem open_bytes (hsz : (DataW.weightsEach P ts ds).all (· ≤ reachBytes) = true) (ht : ts[j]? = some t) (hd : ds[j]? = some d) (hu : P.underlying t = some (.slice e)) (he : P.underlying e = some (.int .u8)) (hc : P.cellsOf e = 1) (hB : P.bytesOf e = 1)
    (hv : Value.okWide P W r b t v) (h : DataW.Trod enc P W base spare held t v d ps) :
    ∃ (a : Option Addr) (len cap : Nat) (l : List UInt8), v = .slice a len cap ∧ RB W a len l ∧ len ≤ cap ∧ len ≤ 140737488351232 := by
  obtain ⟨a, len, cap, rfl⟩ := okWide_slice hu hv
  obtain ⟨fuel, hf⟩ := h
  rcases open_ints hu he hc hf with ⟨hcs, _⟩ | ⟨x, l, c, zs, hcs, _, hl, hm, hz, hx, hcell, hwz⟩
  · simp [Value.cells] at hcs
    obtain ⟨rfl, rfl, rfl⟩ := hcs
    exact ⟨none, 0, 0, [], rfl, Reads.none_, Nat.le_refl _, by omega⟩
  · simp [Value.cells] at hcs
    obtain ⟨rfl, rfl, rfl⟩ := hcs
    obtain ⟨hx, _⟩ := Prod.mk.inj hx
    subst hx
    have z := sized_slice hsz ht hd hu
    rw [hB] at z
    have hl2 : len ≤ zs.length := by
      rw [hz]
      split
      · exact hl
      · exact Nat.le_refl _
    have h1 : (lits (H := H) .u8 (zs.take len)).length + (lits (H := H) .u8 (zs.drop len)).length = zs.length := by
      simp [lits]
      omega
    rw [h1] at z
    exact ⟨some x, len, cap, _, rfl, reads_of_ints hl2 hwz hcell, hl, Nat.le_trans hl2 (by simpa [reachBytes] using z)⟩
end
end Go.Proofs.YteecamdcfkielaaDoor.Rw
