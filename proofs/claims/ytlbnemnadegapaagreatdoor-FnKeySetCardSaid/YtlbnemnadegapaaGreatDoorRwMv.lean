/- How a slice of bytes, and a slice of moves of a set, are opened. -/
import Derived.Test.YtlbnemnadegapaaGreatDoorRwS
import Derived.Test.YtlbnemnadegapaaGreatDoorKyMv
set_option maxRecDepth 100000
set_option linter.unusedVariables false
set_option linter.unusedSimpArgs false
namespace Go.Proofs.YtlbnemnadegapaaGreatDoor.Rw
open Go.ChangeShapes Go.WideShapes Go.ChangeAt Go.RowKit Go.Proofs.YtlbnemnadegapaaGreatDoor.K Go.Proofs.YtlbnemnadegapaaGreatDoor.Ky
def toB (zs : List Int) : List UInt8 := zs.map fun z => UInt8.ofNat z.toNat
theorem toB_cell (zs : List Int) (h : ∀ n ∈ zs, (Lit.int .u8 n).wf = true) (i : Nat) (hi : i < zs.length) : (bys (toB zs))[i]? = some (.int .u8 (zs.getD i 0)) := by
  have hb := bounds_u8 (h zs[i] (List.getElem_mem hi))
  simp only [bys, toB, List.map_map, List.getElem?_map, List.getElem?_eq_getElem hi, Option.map_some, List.getD_eq_getElem?_getD, Option.getD_some, Function.comp]
  congr 2
  simp
  omega
section
variable {H : Type} {enc : TypeId × Value → H} {P : Program} {W : World} {base b : Nat} {spare : Nat → Bool} {held : Bool} {t s e : TypeId} {v u : Value} {d : DataW H} {ps : List MemPlace} {r : Reach} {fuel : Nat} {x : DataW H × List MemPlace}
theorem reads_of_ints {zs : List Int} {x : Addr} {n : Nat} (hn : n ≤ zs.length) (hw : ∀ n ∈ zs, (Lit.int .u8 n).wf = true) (hc : ∀ i, i < zs.length → W.cell? (x.add i) = some (.int .u8 (zs.getD i 0))) : Reads W 1 (some x) n (bys ((toB zs).take n)) := by
  have hl : (toB zs).length = zs.length := by simp [toB]
  refine ⟨by rw [bys_length, List.length_take, hl]; omega, fun h0 => ⟨x, rfl, ?_, fun i u hu => ?_⟩⟩
  · have := World.block_lt_of_cell? W _ (hc 0 (by omega))
    rwa [block_of_add] at this
  · have hi : i < n := by
      have := (List.getElem?_eq_some_iff.1 hu).1
      rw [bys_length, List.length_take] at this
      omega
    have e : bys ((toB zs).take n) = (bys (toB zs)).take n := by simp [bys, List.map_take]
    rw [e, List.getElem?_take, if_pos hi, toB_cell zs hw i (by omega)] at hu
    rw [hc i (by omega), ← hu]
theorem open_elem (hu : P.underlying s = some (.slice e)) (he : P.underlying e = some (.int .u8)) (hc : P.cellsOf e = 1)
    (h : DataW.trod enc P W base spare held fuel s [u] = some x) :
    ∃ (a : Option Addr) (len cap : Nat) (l : List UInt8), u = .slice a len cap ∧ Reads W 1 a len (bys l) ∧ len ≤ cap := by
  rcases open_ints hu he hc h with ⟨hcs, _⟩ | ⟨y, l, c, zs, hcs, _, hl, hm, hz, hx, hcell, hwz⟩
  · obtain rfl := List.head_eq_of_cons_eq hcs
    exact ⟨none, 0, 0, [], rfl, Reads.none_, Nat.le_refl _⟩
  · obtain rfl := List.head_eq_of_cons_eq hcs
    have hl2 : l ≤ zs.length := by
      rw [hz]
      split
      · exact hl
      · exact Nat.le_refl _
    exact ⟨some y, l, c, _, rfl, reads_of_ints hl2 hwz hcell, hl⟩
theorem okWide_slice' {w : World} (hu : P.underlying s = some (.slice e)) (hv : Value.okWide P w r b s v) (h : DataW.Trod enc P W base spare held s v d ps) : ∃ (fuel : Nat) (x : DataW H × List MemPlace), DataW.trod enc P W base spare held fuel s [v] = some x := by
  obtain ⟨a, len, cap, rfl⟩ := okWide_slice hu hv
  obtain ⟨fuel, hf⟩ := h
  exact ⟨fuel, _, hf⟩
theorem open_move {cs : List Value} (h : DataW.trod enc Tryz.prog W base spare held fuel 44 cs = some x) : ∃ m : MV, cs = mc m ∧ OKm m := by
  obtain ⟨xs, m, _, _, hl, hxl, hel⟩ := DataW.trod_struct Tryz.underlying44 h
  have hx4 : xs.length = 4 := hxl
  have c4 : Tryz.prog.cellsOf 44 = 4 := by kernel_rfl
  have cu : Tryz.prog.cellsOf 5 = 1 := by kernel_rfl
  have ci : Tryz.prog.cellsOf 42 = 1 := by kernel_rfl
  rw [c4] at hl
  obtain ⟨x0, x1, x2, x3, rfl⟩ : ∃ x0 x1 x2 x3, cs = [x0, x1, x2, x3] := by
    match cs, hl with
    | [a, b, c, d], _ => exact ⟨a, b, c, d, rfl⟩
  have h0 : DataW.trod enc Tryz.prog W base spare held m 5 (([x0, x1, x2, x3].drop 0).take (Tryz.prog.cellsOf 5)) = xs[0]? := hel 0 _ rfl
  rw [cu, List.getElem?_eq_getElem (by omega)] at h0
  change DataW.trod enc Tryz.prog W base spare held m 5 [x0] = some _ at h0
  obtain ⟨z0, e0, _, w0⟩ := DataW.trod_int Tryz.underlying5 h0
  have h1 : DataW.trod enc Tryz.prog W base spare held m 5 (([x0, x1, x2, x3].drop 1).take (Tryz.prog.cellsOf 5)) = xs[1]? := hel 1 _ rfl
  rw [cu, List.getElem?_eq_getElem (by omega)] at h1
  change DataW.trod enc Tryz.prog W base spare held m 5 [x1] = some _ at h1
  obtain ⟨z1, e1, _, w1⟩ := DataW.trod_int Tryz.underlying5 h1
  have h2 : DataW.trod enc Tryz.prog W base spare held m 42 (([x0, x1, x2, x3].drop 2).take (Tryz.prog.cellsOf 42)) = xs[2]? := hel 2 _ rfl
  rw [ci, List.getElem?_eq_getElem (by omega)] at h2
  change DataW.trod enc Tryz.prog W base spare held m 42 [x2] = some _ at h2
  obtain ⟨z2, e2, _, w2⟩ := DataW.trod_int Tryz.underlying42 h2
  have h3 : DataW.trod enc Tryz.prog W base spare held m 5 (([x0, x1, x2, x3].drop 3).take (Tryz.prog.cellsOf 5)) = xs[3]? := hel 3 _ rfl
  rw [cu, List.getElem?_eq_getElem (by omega)] at h3
  change DataW.trod enc Tryz.prog W base spare held m 5 [x3] = some _ at h3
  obtain ⟨z3, e3, _, w3⟩ := DataW.trod_int Tryz.underlying5 h3
  simp only [List.cons.injEq, and_true] at e0 e1 e2 e3
  subst e0 e1 e2 e3
  have b0 := bounds_u8 w0
  have b1 := bounds_u8 w1
  have b2 := bounds_i8 w2
  have b3 := bounds_u8 w3
  exact ⟨⟨z0, z1, z2, z3⟩, rfl, by show 0 ≤ z0 ∧ z0 < 256; omega, by show 0 ≤ z1 ∧ z1 < 256; omega, by show -128 ≤ z2 ∧ z2 < 128; omega, by show 0 ≤ z3 ∧ z3 < 256; omega⟩
theorem list_of {P : Nat → MV → Prop} : ∀ len, (∀ i, i < len → ∃ f, P i f) → ∃ fs : List MV, fs.length = len ∧ ∀ i (h : i < fs.length), P i fs[i]
  | 0, _ => ⟨[], rfl, fun i h => by cases h⟩
  | n + 1, h => by
    obtain ⟨fs, hl, hp⟩ := list_of n (fun i hi => h i (by omega))
    obtain ⟨f, hf⟩ := h n (by omega)
    refine ⟨fs ++ [f], by simp [hl], fun i hi => ?_⟩
    by_cases hin : i < fs.length
    · rw [List.getElem_append_left hin]; exact hp i hin
    · have : i = fs.length := by simp at hi; omega
      subst this
      rw [List.getElem_append_right (by omega)]
      simpa [hl] using hf
theorem open_moves (hv : Value.okWide Tryz.prog W r b 23 v) (h : DataW.Trod enc Tryz.prog W base spare held 23 v d ps) : ∃ A n c ms, v = .slice A n c ∧ MVL W A n ms := by
  obtain ⟨a, len, cap, rfl⟩ := okWide_slice Tryz.underlying23 hv
  obtain ⟨fuel, hf⟩ := h
  have c4 : Tryz.prog.cellsOf 44 = 4 := by kernel_rfl
  rcases DataW.trod_slice Tryz.underlying23 hf with ⟨hcs, _⟩ | ⟨a', len', cap', elems, rest, n, _, hcs, _, _, hl, hm, hlen, hel, _⟩
  · simp [Value.cells] at hcs
    obtain ⟨rfl, rfl, rfl⟩ := hcs
    exact ⟨none, 0, 0, [], rfl, Reads.none_, fun f hf => by cases hf⟩
  · simp [Value.cells] at hcs
    obtain ⟨rfl, rfl, rfl⟩ := hcs
    have each : ∀ i, i < len → ∃ f : MV, (∀ j, j < 4 → W.cell? ((a'.add (i * 4)).add j) = (mc f)[j]?) ∧ OKm f ∧ (a'.add (i * 4)).block < W.heap.size := fun i hi => by
      have := hel i hi
      rw [c4, List.getElem?_eq_getElem (by omega), Option.bind_eq_some_iff] at this
      obtain ⟨cs, h1, h2⟩ := this
      obtain ⟨f, rfl, hs⟩ := open_move h2
      exact ⟨f, (World.cells?_some h1).2.2, hs, World.cells?_block h1 (by decide)⟩
    obtain ⟨fs, hfl, hfp⟩ := list_of len each
    refine ⟨some a', len, cap, fs, rfl, ⟨by rw [flat_len mc_len]; omega, fun h0 => ⟨a', rfl, ?_, fun j u hu => ?_⟩⟩, fun f hf => ?_⟩
    · have := (hfp 0 (by omega)).2.2
      rwa [block_of_add] at this
    · have hj : j < fs.length * 4 := by
        have := (List.getElem?_eq_some_iff.1 hu).1
        rwa [flat_len mc_len] at this
      have hq : j / 4 < fs.length := by omega
      have e : j = j / 4 * 4 + j % 4 := by omega
      have h1 := (hfp (j / 4) hq).1 (j % 4) (by omega)
      rw [add_of_add, ← e] at h1
      rw [h1, ← flat_at mc_len fs (j / 4) (j % 4) hq (by omega), ← e, hu]
    · obtain ⟨i, hi, rfl⟩ := List.getElem_of_mem hf
      exact (hfp i hi).2.1
end
end Go.Proofs.YtlbnemnadegapaaGreatDoor.Rw
