/- How an argument that is an array of three slices of bytes is opened. -/
import Derived.Test.YteecamdcfkielaaDoorRw
set_option linter.unusedVariables false
set_option linter.unusedSimpArgs false
namespace Go.Proofs.YteecamdcfkielaaDoor.Rw
open Go.ChangeShapes Go.WideShapes Go.ChangeAt Go.RowKit Go.Proofs.YteecamdcfkielaaDoor.K Go.Proofs.YteecamdcfkielaaDoor.Own
section
variable {H : Type} {enc : TypeId × Value → H} {P : Program} {W : World} {base b : Nat} {spare : Nat → Bool} {held : Bool} {t s e : TypeId} {v u : Value} {d : DataW H} {ps : List MemPlace} {r : Reach} {fuel : Nat} {x : DataW H × List MemPlace}
theorem open_elem (hu : P.underlying s = some (.slice e)) (he : P.underlying e = some (.int .u8)) (hc : P.cellsOf e = 1)
    (h : DataW.trod enc P W base spare held fuel s [u] = some x) :
    ∃ (a : Option Addr) (len cap : Nat) (l : List UInt8), u = .slice a len cap ∧ RB W a len l ∧ len ≤ cap := by
  rcases open_ints hu he hc h with ⟨hcs, _⟩ | ⟨y, l, c, zs, hcs, _, hl, hm, hz, hx, hcell, hwz⟩
  · obtain rfl := List.head_eq_of_cons_eq hcs
    exact ⟨none, 0, 0, [], rfl, Reads.none_, Nat.le_refl _⟩
  · obtain rfl := List.head_eq_of_cons_eq hcs
    have hl2 : l ≤ zs.length := by
      rw [hz]
      split
      · exact hl
      · exact Nat.le_refl _
    exact ⟨some y, l, c, _, rfl, reads_of_ints hl2 hwz hcell, hl⟩
theorem okWide_slice' {w : World} (hu : P.underlying s = some (.slice e)) (hv : Value.okWide P w r b s v) (h : DataW.Trod enc P W base spare held s v d ps) : ∃ (fuel : Nat) (x : DataW H × List MemPlace), DataW.trod enc P W base spare held fuel s [v] = some x := by
  obtain ⟨a, len, cap, rfl⟩ := okWide_slice hu hv
  obtain ⟨fuel, hf⟩ := h
  exact ⟨fuel, _, hf⟩
def Three (W : World) (v : Value) (A0 A1 A2 : Option Addr) (n0 n1 n2 c0 c1 c2 : Nat) (l0 l1 l2 : List UInt8) : Prop :=
  v = .agg #[.slice A0 n0 c0, .slice A1 n1 c1, .slice A2 n2 c2] ∧ RB W A0 n0 l0 ∧ RB W A1 n1 l1 ∧ RB W A2 n2 l2 ∧ n0 ≤ c0 ∧ n1 ≤ c1 ∧ n2 ≤ c2
theorem open_three (ht : P.underlying t = some (.array 3 s)) (hu : P.underlying s = some (.slice e)) (he : P.underlying e = some (.int .u8)) (hct : P.cellsOf t = 3) (hcs : P.cellsOf s = 1) (hc : P.cellsOf e = 1)
    (hv : Value.okWide P W r b t v) (h : DataW.Trod enc P W base spare held t v d ps) :
    ∃ A0 A1 A2 n0 n1 n2 c0 c1 c2 l0 l1 l2, Three W v A0 A1 A2 n0 n1 n2 c0 c1 c2 l0 l1 l2 := by
  simp only [Value.okWide, ht] at hv
  obtain ⟨cs, rfl, hsz, _⟩ := hv
  rw [hct] at hsz
  obtain ⟨fuel, hf⟩ := h
  obtain ⟨xs, m, _, _, hl, hxl, hel⟩ := DataW.trod_array ht hf
  have hcl : (Value.agg cs).cells.toList = cs.toList := rfl
  rw [hcl] at hel
  obtain ⟨x0, x1, x2, hx⟩ : ∃ x0 x1 x2, cs = #[x0, x1, x2] := by
    rcases cs with ⟨l⟩
    match l, hsz with
    | [a, b, c], _ => exact ⟨a, b, c, rfl⟩
  subst hx
  rw [hcs] at hel
  have h0 := hel 0 (by omega)
  have h1 := hel 1 (by omega)
  have h2 := hel 2 (by omega)
  rw [List.getElem?_eq_getElem (by omega)] at h0 h1 h2
  obtain ⟨A0, n0, c0, l0, rfl, r0, k0⟩ := open_elem hu he hc h0
  obtain ⟨A1, n1, c1, l1, rfl, r1, k1⟩ := open_elem hu he hc h1
  obtain ⟨A2, n2, c2, l2, rfl, r2, k2⟩ := open_elem hu he hc h2
  exact ⟨A0, A1, A2, n0, n1, n2, c0, c1, c2, l0, l1, l2, rfl, r0, r1, r2, k0, k1, k2⟩
end
end Go.Proofs.YteecamdcfkielaaDoor.Rw
