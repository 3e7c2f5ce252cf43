import Derived.Test.YtapjbdigpleekaaGreatGS
/- A slice of fields that is an argument is no longer than its room. -/
set_option maxRecDepth 100000
set_option linter.unusedVariables false
set_option linter.unusedSimpArgs false
namespace Go.Proofs.YtapjbdigpleekaaGreat.Rw
open Go.ChangeShapes Go.WideShapes Go.ChangeAt Go.RowKit Go.Proofs.YtapjbdigpleekaaGreat.K Go.Proofs.YtapjbdigpleekaaGreat.Cl Go.Proofs.YtapjbdigpleekaaGreat.Mp
section
variable {H : Type} {enc : TypeId × Value → H} {W : World} {base b : Nat} {spare : Nat → Bool} {held : Bool} {v u : Value} {d : DataW H} {ps : List MemPlace} {r : Reach} {fuel : Nat} {x : DataW H × List MemPlace}
theorem open_fieldsc (hv : Value.okWide Tryz.prog W r b 22 v) (h : DataW.Trod enc Tryz.prog W base spare held 22 v d ps) : ∃ A n c fs, v = .slice A n c ∧ FL W A n fs ∧ (∀ f ∈ fs, -2147483648 ≤ f.z ∧ f.z ≤ 2147483647) ∧ n ≤ c := by
  obtain ⟨A, n, c, fs, rfl, h1, h2⟩ := open_fieldsz hv h
  refine ⟨A, n, c, fs, rfl, h1, h2, ?_⟩
  obtain ⟨fuel, hf⟩ := h
  rcases DataW.trod_slice Tryz.underlying22 hf with ⟨hcs, _⟩ | ⟨a', len', cap', elems, rest, n', _, hcs, _, _, hl, _⟩
  · simp [Value.cells] at hcs
    omega
  · simp [Value.cells] at hcs
    omega
end
end Go.Proofs.YtapjbdigpleekaaGreat.Rw
