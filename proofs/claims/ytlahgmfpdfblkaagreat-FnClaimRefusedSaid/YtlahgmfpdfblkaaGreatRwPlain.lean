/- How an argument that is a value as data (five fields) is opened. -/
import Derived.Test.YtlahgmfpdfblkaaGreatRwS
import Derived.Test.YtlahgmfpdfblkaaGreatClStr
import Derived.SliceStrings
set_option maxRecDepth 100000
set_option linter.unusedVariables false
set_option linter.unusedSimpArgs false
namespace Go.Proofs.YtlahgmfpdfblkaaGreat.Rw
open Go.ChangeShapes Go.WideShapes Go.ChangeAt Go.RowKit Go.Proofs.YtlahgmfpdfblkaaGreat.K Go.Proofs.YtlahgmfpdfblkaaGreat.Cl
section
variable {H : Type} {enc : TypeId × Value → H} {W : World} {base b : Nat} {spare : Nat → Bool} {held : Bool} {v u : Value} {d : DataW H} {ps : List MemPlace} {r : Reach} {fuel : Nat} {x : DataW H × List MemPlace}
theorem open_strs (h : DataW.trod enc Tryz.prog W base spare held fuel 23 [u] = some x) : ∃ A n c l, u = .slice A n c ∧ SL W A n l := by
  rcases Go.ChangeShapes.open_strings Tryz.underlying23 Tryz.underlying9 (by kernel_rfl) h with ⟨hcs, _⟩ | ⟨y, l, c, ss, hcs, _, hl, hm, hz, hx, hcell, _⟩
  · obtain rfl := List.head_eq_of_cons_eq hcs
    exact ⟨none, 0, 0, [], rfl, Reads.none_⟩
  · obtain rfl := List.head_eq_of_cons_eq hcs
    have hl2 : l ≤ ss.length := by
      rw [hz]
      split
      · exact hl
      · exact Nat.le_refl _
    refine ⟨some y, l, c, ss.take l, rfl, by simp [strs_len]; omega, fun h0 => ⟨y, rfl, ?_, fun i u hu => ?_⟩⟩
    · have := World.block_lt_of_cell? W _ (hcell 0 (by omega))
      rwa [block_of_add] at this
    · have hi : i < l := by
        have := (List.getElem?_eq_some_iff.1 hu).1
        rw [strs_len, List.length_take] at this
        omega
      rw [hcell i (by omega), ← hu]
      simp [Cl.strs, hi, show i < ss.length by omega]
theorem open_plain (hv : Value.okWide Tryz.prog W r b 25 v) (h : DataW.Trod enc Tryz.prog W base spare held 25 v d ps) :
    ∃ k t i z A n c l, v = plainV k t i z A n c ∧ SL W A n l := by
  simp only [Value.okWide, Tryz.underlying25] at hv
  obtain ⟨cs, rfl, hsz, _⟩ := hv
  have hc5 : Tryz.prog.cellsOf 25 = 5 := by kernel_rfl
  rw [hc5] at hsz
  obtain ⟨fuel, hf⟩ := h
  obtain ⟨xs, m, _, _, hl, hxl, hel⟩ := DataW.trod_struct Tryz.underlying25 hf
  have hcl : (Value.agg cs).cells.toList = cs.toList := rfl
  rw [hcl] at hel
  obtain ⟨x0, x1, x2, x3, x4, hx⟩ : ∃ x0 x1 x2 x3 x4, cs = #[x0, x1, x2, x3, x4] := by
    rcases cs with ⟨l⟩
    match l, hsz with
    | [a, b, c, d, e], _ => exact ⟨a, b, c, d, e, rfl⟩
  subst hx
  have hx5 : xs.length = 5 := hxl
  have ci : Tryz.prog.cellsOf 3 = 1 := by kernel_rfl
  have ct : Tryz.prog.cellsOf 9 = 1 := by kernel_rfl
  have cb : Tryz.prog.cellsOf 4 = 1 := by kernel_rfl
  have cz : Tryz.prog.cellsOf 21 = 1 := by kernel_rfl
  have cl : Tryz.prog.cellsOf 23 = 1 := by kernel_rfl
  have h0 : DataW.trod enc Tryz.prog W base spare held m 3 (([x0, x1, x2, x3, x4].drop 0).take (Tryz.prog.cellsOf 3)) = xs[0]? := hel 0 _ rfl
  rw [ci, List.getElem?_eq_getElem (by omega)] at h0
  change DataW.trod enc Tryz.prog W base spare held m 3 [x0] = some _ at h0
  have h1 : DataW.trod enc Tryz.prog W base spare held m 9 (([x0, x1, x2, x3, x4].drop 1).take (Tryz.prog.cellsOf 9)) = xs[1]? := hel 1 _ rfl
  rw [ct, List.getElem?_eq_getElem (by omega)] at h1
  change DataW.trod enc Tryz.prog W base spare held m 9 [x1] = some _ at h1
  have h2 : DataW.trod enc Tryz.prog W base spare held m 4 (([x0, x1, x2, x3, x4].drop 2).take (Tryz.prog.cellsOf 4)) = xs[2]? := hel 2 _ rfl
  rw [cb, List.getElem?_eq_getElem (by omega)] at h2
  change DataW.trod enc Tryz.prog W base spare held m 4 [x2] = some _ at h2
  have h3 : DataW.trod enc Tryz.prog W base spare held m 21 (([x0, x1, x2, x3, x4].drop 3).take (Tryz.prog.cellsOf 21)) = xs[3]? := hel 3 _ rfl
  rw [cz, List.getElem?_eq_getElem (by omega)] at h3
  change DataW.trod enc Tryz.prog W base spare held m 21 [x3] = some _ at h3
  have h4 : DataW.trod enc Tryz.prog W base spare held m 23 (([x0, x1, x2, x3, x4].drop 4).take (Tryz.prog.cellsOf 23)) = xs[4]? := hel 4 _ rfl
  rw [cl, List.getElem?_eq_getElem (by omega)] at h4
  change DataW.trod enc Tryz.prog W base spare held m 23 [x4] = some _ at h4
  obtain ⟨k, e0, _⟩ := DataW.trod_int Tryz.underlying3 h0
  obtain ⟨t, e1, _⟩ := DataW.trod_string Tryz.underlying9 h1
  obtain ⟨i, e2, _⟩ := DataW.trod_bool Tryz.underlying4 h2
  obtain ⟨z, e3, _⟩ := DataW.trod_int Tryz.underlying21 h3
  obtain ⟨A, n, c, l, e4, hs⟩ := open_strs (u := x4) h4
  simp only [List.cons.injEq, and_true] at e0 e1 e2 e3
  subst e0 e1 e2 e3 e4
  exact ⟨k, t, i, z, A, n, c, l, rfl, hs⟩
end
end Go.Proofs.YtlahgmfpdfblkaaGreat.Rw
