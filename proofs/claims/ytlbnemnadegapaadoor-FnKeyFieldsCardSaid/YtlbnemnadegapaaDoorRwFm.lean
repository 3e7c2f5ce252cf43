/- How a slice of moves of a key's fields is opened. -/
import Derived.Test.YtlbnemnadegapaaDoorRwBy
set_option maxRecDepth 100000
set_option linter.unusedVariables false
set_option linter.unusedSimpArgs false
namespace Go.Proofs.YtlbnemnadegapaaDoor.Rw
open Go.ChangeShapes Go.WideShapes Go.ChangeAt Go.RowKit Go.Proofs.YtlbnemnadegapaaDoor.K Go.Proofs.YtlbnemnadegapaaDoor.Ky Go.Proofs.YtlbnemnadegapaaDoor.Kf
section
variable {H : Type} {enc : TypeId × Value → H} {W : World} {base b : Nat} {spare : Nat → Bool} {held : Bool} {v u : Value} {d : DataW H} {ps : List MemPlace} {r : Reach} {fuel : Nat} {x : DataW H × List MemPlace}
theorem open_fm {cs : List Value} (h : DataW.trod enc Tryd.prog W base spare held fuel 27 cs = some x) : ∃ m : FM, cs = fm m ∧ OKf m ∧ Reads W 1 m.A m.n (bys m.ops) := by
  obtain ⟨xs, m, _, _, hl, hxl, hel⟩ := DataW.trod_struct Tryd.underlying27 h
  have hx4 : xs.length = 4 := hxl
  have c4 : Tryd.prog.cellsOf 27 = 4 := by kernel_rfl
  have cu : Tryd.prog.cellsOf 5 = 1 := by kernel_rfl
  have ct : Tryd.prog.cellsOf 9 = 1 := by kernel_rfl
  have cl : Tryd.prog.cellsOf 22 = 1 := by kernel_rfl
  rw [c4] at hl
  obtain ⟨x0, x1, x2, x3, rfl⟩ : ∃ x0 x1 x2 x3, cs = [x0, x1, x2, x3] := by
    match cs, hl with
    | [a, b, c, d], _ => exact ⟨a, b, c, d, rfl⟩
  have h0 : DataW.trod enc Tryd.prog W base spare held m 5 (([x0, x1, x2, x3].drop 0).take (Tryd.prog.cellsOf 5)) = xs[0]? := hel 0 _ rfl
  rw [cu, List.getElem?_eq_getElem (by omega)] at h0
  change DataW.trod enc Tryd.prog W base spare held m 5 [x0] = some _ at h0
  obtain ⟨z0, e0, _, w0⟩ := DataW.trod_int Tryd.underlying5 h0
  have h1 : DataW.trod enc Tryd.prog W base spare held m 5 (([x0, x1, x2, x3].drop 1).take (Tryd.prog.cellsOf 5)) = xs[1]? := hel 1 _ rfl
  rw [cu, List.getElem?_eq_getElem (by omega)] at h1
  change DataW.trod enc Tryd.prog W base spare held m 5 [x1] = some _ at h1
  obtain ⟨z1, e1, _, w1⟩ := DataW.trod_int Tryd.underlying5 h1
  have h2 : DataW.trod enc Tryd.prog W base spare held m 9 (([x0, x1, x2, x3].drop 2).take (Tryd.prog.cellsOf 9)) = xs[2]? := hel 2 _ rfl
  rw [ct, List.getElem?_eq_getElem (by omega)] at h2
  change DataW.trod enc Tryd.prog W base spare held m 9 [x2] = some _ at h2
  obtain ⟨z2, e2, _⟩ := DataW.trod_string Tryd.underlying9 h2
  have h3 : DataW.trod enc Tryd.prog W base spare held m 22 (([x0, x1, x2, x3].drop 3).take (Tryd.prog.cellsOf 22)) = xs[3]? := hel 3 _ rfl
  rw [cl, List.getElem?_eq_getElem (by omega)] at h3
  change DataW.trod enc Tryd.prog W base spare held m 22 [x3] = some _ at h3
  obtain ⟨A, n, c, l, e3, hr, _⟩ := open_elem (u := x3) Tryd.underlying22 Tryd.underlying5 (by kernel_rfl) h3
  simp only [List.cons.injEq, and_true] at e0 e1 e2
  subst e0 e1 e2 e3
  have b0 := bounds_u8 w0
  have b1 := bounds_u8 w1
  exact ⟨⟨z0, z1, z2, A, n, c, l⟩, rfl, ⟨by show 0 ≤ z0 ∧ z0 < 256; omega, by show 0 ≤ z1 ∧ z1 < 256; omega⟩, hr⟩
theorem list_ofF {P : Nat → FM → Prop} : ∀ len, (∀ i, i < len → ∃ f, P i f) → ∃ fs : List FM, fs.length = len ∧ ∀ i (h : i < fs.length), P i fs[i]
  | 0, _ => ⟨[], rfl, fun i h => by cases h⟩
  | n + 1, h => by
    obtain ⟨fs, hl, hp⟩ := list_ofF n (fun i hi => h i (by omega))
    obtain ⟨f, hf⟩ := h n (by omega)
    refine ⟨fs ++ [f], by simp [hl], fun i hi => ?_⟩
    by_cases hin : i < fs.length
    · rw [List.getElem_append_left hin]; exact hp i hin
    · have : i = fs.length := by simp at hi; omega
      subst this
      rw [List.getElem_append_right (by omega)]
      simpa [hl] using hf
theorem open_fms (hv : Value.okWide Tryd.prog W r b 23 v) (h : DataW.Trod enc Tryd.prog W base spare held 23 v d ps) : ∃ A n c ms, v = .slice A n c ∧ FML W A n ms := by
  obtain ⟨a, len, cap, rfl⟩ := okWide_slice Tryd.underlying23 hv
  obtain ⟨fuel, hf⟩ := h
  have c4 : Tryd.prog.cellsOf 27 = 4 := by kernel_rfl
  rcases DataW.trod_slice Tryd.underlying23 hf with ⟨hcs, _⟩ | ⟨a', len', cap', elems, rest, n, _, hcs, _, _, hl, hm, hlen, hel, _⟩
  · simp [Value.cells] at hcs
    obtain ⟨rfl, rfl, rfl⟩ := hcs
    exact ⟨none, 0, 0, [], rfl, Reads.none_, fun f hf => by cases hf⟩
  · simp [Value.cells] at hcs
    obtain ⟨rfl, rfl, rfl⟩ := hcs
    have each : ∀ i, i < len → ∃ f : FM, (∀ j, j < 4 → W.cell? ((a'.add (i * 4)).add j) = (fm f)[j]?) ∧ (OKf f ∧ Reads W 1 f.A f.n (bys f.ops)) ∧ (a'.add (i * 4)).block < W.heap.size := fun i hi => by
      have := hel i hi
      rw [c4, List.getElem?_eq_getElem (by omega), Option.bind_eq_some_iff] at this
      obtain ⟨cs, h1, h2⟩ := this
      obtain ⟨f, rfl, hs⟩ := open_fm h2
      exact ⟨f, (World.cells?_some h1).2.2, hs, World.cells?_block h1 (by decide)⟩
    obtain ⟨fs, hfl, hfp⟩ := list_ofF len each
    refine ⟨some a', len, cap, fs, rfl, ⟨by rw [flat_len fm_len]; omega, fun h0 => ⟨a', rfl, ?_, fun j u hu => ?_⟩⟩, fun f hf => ?_⟩
    · have := (hfp 0 (by omega)).2.2
      rwa [block_of_add] at this
    · have hj : j < fs.length * 4 := by
        have := (List.getElem?_eq_some_iff.1 hu).1
        rwa [flat_len fm_len] at this
      have hq : j / 4 < fs.length := by omega
      have e : j = j / 4 * 4 + j % 4 := by omega
      have h1 := (hfp (j / 4) hq).1 (j % 4) (by omega)
      rw [add_of_add, ← e] at h1
      rw [h1, ← flat_at fm_len fs (j / 4) (j % 4) hq (by omega), ← e, hu]
    · obtain ⟨i, hi, rfl⟩ := List.getElem_of_mem hf
      exact (hfp i hi).2.1
end
end Go.Proofs.YtlbnemnadegapaaDoor.Rw
