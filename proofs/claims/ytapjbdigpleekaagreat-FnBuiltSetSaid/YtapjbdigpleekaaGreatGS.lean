import Derived.Test.YtapjbdigpleekaaGreatK
import Derived.Test.YtapjbdigpleekaaGreatProg
import Derived.ProofKit
import Derived.OpenShut
import Derived.ShutString
import Derived.ChangeOld
import Derived.SizedLaws
import Derived.ChangeSlices
import Derived.Test.YtapjbdigpleekaaGreatGA
import Derived.SliceStrings
import Derived.Test.YtapjbdigpleekaaGreatGF
/- What a row's proof wants in a seat without bytes: two closed facts. -/
namespace Go.Proofs.YtapjbdigpleekaaGreat.Own
theorem here : True := trivial
end Go.Proofs.YtapjbdigpleekaaGreat.Own
namespace Go.Proofs.YtapjbdigpleekaaGreat.Rw
open Go.ChangeShapes Go.WideShapes Go.ChangeAt Go.RowKit
theorem own : ownKnob Tryz.prog.godebug = none := by kernel_rfl
theorem laidOut : laidOutB Tryz.prog = true := by kernel_rfl
end Go.Proofs.YtapjbdigpleekaaGreat.Rw

/- How an argument that is a value as data (five fields) is opened. -/
set_option maxRecDepth 100000
set_option linter.unusedVariables false
set_option linter.unusedSimpArgs false
namespace Go.Proofs.YtapjbdigpleekaaGreat.Rw
open Go.ChangeShapes Go.WideShapes Go.ChangeAt Go.RowKit Go.Proofs.YtapjbdigpleekaaGreat.K Go.Proofs.YtapjbdigpleekaaGreat.Cl
section
variable {H : Type} {enc : TypeId × Value → H} {W : World} {base b : Nat} {spare : Nat → Bool} {held : Bool} {v u : Value} {d : DataW H} {ps : List MemPlace} {r : Reach} {fuel : Nat} {x : DataW H × List MemPlace}
theorem open_strs (h : DataW.trod enc Tryz.prog W base spare held fuel 23 [u] = some x) : ∃ A n c l, u = .slice A n c ∧ SL W A n l := by
  rcases Go.ChangeShapes.open_strings Tryz.underlying23 Tryz.underlying9 (by kernel_rfl) h with ⟨hcs, _⟩ | ⟨y, l, c, ss, hcs, _, hl, hm, hz, hx, hcell, _⟩
  · obtain rfl := List.head_eq_of_cons_eq hcs
    exact ⟨none, 0, 0, [], rfl, Reads.none_⟩
  · obtain rfl := List.head_eq_of_cons_eq hcs
    have hl2 : l ≤ ss.length := by
      rw [hz]
      split
      · exact hl
      · exact Nat.le_refl _
    refine ⟨some y, l, c, ss.take l, rfl, by simp [strs_len]; omega, fun h0 => ⟨y, rfl, ?_, fun i u hu => ?_⟩⟩
    · have := World.block_lt_of_cell? W _ (hcell 0 (by omega))
      rwa [block_of_add] at this
    · have hi : i < l := by
        have := (List.getElem?_eq_some_iff.1 hu).1
        rw [strs_len, List.length_take] at this
        omega
      rw [hcell i (by omega), ← hu]
      simp [Cl.strs, hi, show i < ss.length by omega]
theorem open_plain (hv : Value.okWide Tryz.prog W r b 43 v) (h : DataW.Trod enc Tryz.prog W base spare held 43 v d ps) :
    ∃ k t i z A n c l, v = plainV k t i z A n c ∧ SL W A n l := by
  simp only [Value.okWide, Tryz.underlying43] at hv
  obtain ⟨cs, rfl, hsz, _⟩ := hv
  have hc5 : Tryz.prog.cellsOf 43 = 5 := by kernel_rfl
  rw [hc5] at hsz
  obtain ⟨fuel, hf⟩ := h
  obtain ⟨xs, m, _, _, hl, hxl, hel⟩ := DataW.trod_struct Tryz.underlying43 hf
  have hcl : (Value.agg cs).cells.toList = cs.toList := rfl
  rw [hcl] at hel
  obtain ⟨x0, x1, x2, x3, x4, hx⟩ : ∃ x0 x1 x2 x3 x4, cs = #[x0, x1, x2, x3, x4] := by
    rcases cs with ⟨l⟩
    match l, hsz with
    | [a, b, c, d, e], _ => exact ⟨a, b, c, d, e, rfl⟩
  subst hx
  have hx5 : xs.length = 5 := hxl
  have ci : Tryz.prog.cellsOf 3 = 1 := by kernel_rfl
  have ct : Tryz.prog.cellsOf 9 = 1 := by kernel_rfl
  have cb : Tryz.prog.cellsOf 4 = 1 := by kernel_rfl
  have cz : Tryz.prog.cellsOf 21 = 1 := by kernel_rfl
  have cl : Tryz.prog.cellsOf 23 = 1 := by kernel_rfl
  have h0 : DataW.trod enc Tryz.prog W base spare held m 3 (([x0, x1, x2, x3, x4].drop 0).take (Tryz.prog.cellsOf 3)) = xs[0]? := hel 0 _ rfl
  rw [ci, List.getElem?_eq_getElem (by omega)] at h0
  change DataW.trod enc Tryz.prog W base spare held m 3 [x0] = some _ at h0
  have h1 : DataW.trod enc Tryz.prog W base spare held m 9 (([x0, x1, x2, x3, x4].drop 1).take (Tryz.prog.cellsOf 9)) = xs[1]? := hel 1 _ rfl
  rw [ct, List.getElem?_eq_getElem (by omega)] at h1
  change DataW.trod enc Tryz.prog W base spare held m 9 [x1] = some _ at h1
  have h2 : DataW.trod enc Tryz.prog W base spare held m 4 (([x0, x1, x2, x3, x4].drop 2).take (Tryz.prog.cellsOf 4)) = xs[2]? := hel 2 _ rfl
  rw [cb, List.getElem?_eq_getElem (by omega)] at h2
  change DataW.trod enc Tryz.prog W base spare held m 4 [x2] = some _ at h2
  have h3 : DataW.trod enc Tryz.prog W base spare held m 21 (([x0, x1, x2, x3, x4].drop 3).take (Tryz.prog.cellsOf 21)) = xs[3]? := hel 3 _ rfl
  rw [cz, List.getElem?_eq_getElem (by omega)] at h3
  change DataW.trod enc Tryz.prog W base spare held m 21 [x3] = some _ at h3
  have h4 : DataW.trod enc Tryz.prog W base spare held m 23 (([x0, x1, x2, x3, x4].drop 4).take (Tryz.prog.cellsOf 23)) = xs[4]? := hel 4 _ rfl
  rw [cl, List.getElem?_eq_getElem (by omega)] at h4
  change DataW.trod enc Tryz.prog W base spare held m 23 [x4] = some _ at h4
  obtain ⟨k, e0, _⟩ := DataW.trod_int Tryz.underlying3 h0
  obtain ⟨t, e1, _⟩ := DataW.trod_string Tryz.underlying9 h1
  obtain ⟨i, e2, _⟩ := DataW.trod_bool Tryz.underlying4 h2
  obtain ⟨z, e3, _⟩ := DataW.trod_int Tryz.underlying21 h3
  obtain ⟨A, n, c, l, e4, hs⟩ := open_strs (u := x4) h4
  simp only [List.cons.injEq, and_true] at e0 e1 e2 e3
  subst e0 e1 e2 e3 e4
  exact ⟨k, t, i, z, A, n, c, l, rfl, hs⟩
end
end Go.Proofs.YtapjbdigpleekaaGreat.Rw

/- How an argument that is a slice of fields, of steps, or a plain value is opened: with the range of a number. -/
set_option maxRecDepth 100000
set_option linter.unusedVariables false
set_option linter.unusedSimpArgs false
namespace Go.Proofs.YtapjbdigpleekaaGreat.Rw
open Go.ChangeShapes Go.WideShapes Go.ChangeAt Go.RowKit Go.Proofs.YtapjbdigpleekaaGreat.K Go.Proofs.YtapjbdigpleekaaGreat.Cl Go.Proofs.YtapjbdigpleekaaGreat.Mp
theorem wf32 {z : Int} (h : (Lit.int .i32 z).wf = true) : -2147483648 ≤ z ∧ z ≤ 2147483647 := by
  simp [Lit.wf, IntKind.min, IntKind.max, IntKind.bits, IntKind.signed] at h
  omega
theorem wf8 {z : Int} (h : (Lit.int .u8 z).wf = true) : ∃ n : Nat, z = (n : Int) ∧ n ≤ 255 := by
  simp [Lit.wf, IntKind.min, IntKind.max, IntKind.bits, IntKind.signed] at h
  exact ⟨z.toNat, by omega, by omega⟩
section
variable {H : Type} {enc : TypeId × Value → H} {W : World} {base b : Nat} {spare : Nat → Bool} {held : Bool} {v u : Value} {d : DataW H} {ps : List MemPlace} {r : Reach} {fuel : Nat} {x : DataW H × List MemPlace}
theorem open_plainZ {x0 x1 x2 x3 x4 : Value} (h : DataW.trod enc Tryz.prog W base spare held fuel 43 [x0, x1, x2, x3, x4] = some x) :
    ∃ k t i z A n c l, [x0, x1, x2, x3, x4] = [.int .i64 k, .string t, .bool i, .int .i32 z, .slice A n c] ∧ SL W A n l ∧ -2147483648 ≤ z ∧ z ≤ 2147483647 := by
  obtain ⟨xs, m, _, _, hl, hxl, hel⟩ := DataW.trod_struct Tryz.underlying43 h
  have hx5 : xs.length = 5 := hxl
  have ci : Tryz.prog.cellsOf 3 = 1 := by kernel_rfl
  have ct : Tryz.prog.cellsOf 9 = 1 := by kernel_rfl
  have cb : Tryz.prog.cellsOf 4 = 1 := by kernel_rfl
  have cz : Tryz.prog.cellsOf 21 = 1 := by kernel_rfl
  have cl : Tryz.prog.cellsOf 23 = 1 := by kernel_rfl
  have h0 : DataW.trod enc Tryz.prog W base spare held m 3 (([x0, x1, x2, x3, x4].drop 0).take (Tryz.prog.cellsOf 3)) = xs[0]? := hel 0 _ rfl
  rw [ci, List.getElem?_eq_getElem (by omega)] at h0
  change DataW.trod enc Tryz.prog W base spare held m 3 [x0] = some _ at h0
  have h1 : DataW.trod enc Tryz.prog W base spare held m 9 (([x0, x1, x2, x3, x4].drop 1).take (Tryz.prog.cellsOf 9)) = xs[1]? := hel 1 _ rfl
  rw [ct, List.getElem?_eq_getElem (by omega)] at h1
  change DataW.trod enc Tryz.prog W base spare held m 9 [x1] = some _ at h1
  have h2 : DataW.trod enc Tryz.prog W base spare held m 4 (([x0, x1, x2, x3, x4].drop 2).take (Tryz.prog.cellsOf 4)) = xs[2]? := hel 2 _ rfl
  rw [cb, List.getElem?_eq_getElem (by omega)] at h2
  change DataW.trod enc Tryz.prog W base spare held m 4 [x2] = some _ at h2
  have h3 : DataW.trod enc Tryz.prog W base spare held m 21 (([x0, x1, x2, x3, x4].drop 3).take (Tryz.prog.cellsOf 21)) = xs[3]? := hel 3 _ rfl
  rw [cz, List.getElem?_eq_getElem (by omega)] at h3
  change DataW.trod enc Tryz.prog W base spare held m 21 [x3] = some _ at h3
  have h4 : DataW.trod enc Tryz.prog W base spare held m 23 (([x0, x1, x2, x3, x4].drop 4).take (Tryz.prog.cellsOf 23)) = xs[4]? := hel 4 _ rfl
  rw [cl, List.getElem?_eq_getElem (by omega)] at h4
  change DataW.trod enc Tryz.prog W base spare held m 23 [x4] = some _ at h4
  obtain ⟨k, e0, _⟩ := DataW.trod_int Tryz.underlying3 h0
  obtain ⟨t, e1, _⟩ := DataW.trod_string Tryz.underlying9 h1
  obtain ⟨i, e2, _⟩ := DataW.trod_bool Tryz.underlying4 h2
  obtain ⟨z, e3, _, hwf⟩ := DataW.trod_int Tryz.underlying21 h3
  obtain ⟨A, n, c, l, e4, hs⟩ := open_strs (u := x4) h4
  simp only [List.cons.injEq, and_true] at e0 e1 e2 e3
  subst e0 e1 e2 e3 e4
  exact ⟨k, t, i, z, A, n, c, l, rfl, hs, wf32 hwf⟩
theorem open_fdz {cs : List Value} (h : DataW.trod enc Tryz.prog W base spare held fuel 45 cs = some x) : ∃ f : Cl.Fd, cs = fc f ∧ SL W f.A f.n f.l ∧ -2147483648 ≤ f.z ∧ f.z ≤ 2147483647 := by
  obtain ⟨xs, m, _, _, hl, hxl, hel⟩ := DataW.trod_struct Tryz.underlying45 h
  have hx2 : xs.length = 2 := hxl
  have c6 : Tryz.prog.cellsOf 45 = 6 := by kernel_rfl
  have ct : Tryz.prog.cellsOf 9 = 1 := by kernel_rfl
  have cp : Tryz.prog.cellsOf 43 = 5 := by kernel_rfl
  rw [c6] at hl
  obtain ⟨x0, x1, x2, x3, x4, x5, rfl⟩ : ∃ x0 x1 x2 x3 x4 x5, cs = [x0, x1, x2, x3, x4, x5] := by
    match cs, hl with
    | [a, b, c, d, e, f], _ => exact ⟨a, b, c, d, e, f, rfl⟩
  have h0 : DataW.trod enc Tryz.prog W base spare held m 9 (([x0, x1, x2, x3, x4, x5].drop 0).take (Tryz.prog.cellsOf 9)) = xs[0]? := hel 0 _ rfl
  rw [ct, List.getElem?_eq_getElem (by omega)] at h0
  change DataW.trod enc Tryz.prog W base spare held m 9 [x0] = some _ at h0
  have h1 : DataW.trod enc Tryz.prog W base spare held m 43 (([x0, x1, x2, x3, x4, x5].drop 1).take (Tryz.prog.cellsOf 43)) = xs[1]? := hel 1 _ rfl
  rw [cp, List.getElem?_eq_getElem (by omega)] at h1
  change DataW.trod enc Tryz.prog W base spare held m 43 [x1, x2, x3, x4, x5] = some _ at h1
  obtain ⟨nm, e0, _⟩ := DataW.trod_string Tryz.underlying9 h0
  obtain ⟨k, t, i, z, A, n, c, l, e1, hs, hz⟩ := open_plainZ h1
  simp only [List.cons.injEq, and_true] at e0
  subst e0
  exact ⟨⟨nm, k, t, i, z, A, n, c, l⟩, by rw [e1]; rfl, hs, hz⟩
theorem list_ofz {P : Nat → Cl.Fd → Prop} : ∀ len, (∀ i, i < len → ∃ f, P i f) → ∃ fs : List Cl.Fd, fs.length = len ∧ ∀ i (h : i < fs.length), P i fs[i]
  | 0, _ => ⟨[], rfl, fun i h => by cases h⟩
  | n + 1, h => by
    obtain ⟨fs, hl, hp⟩ := list_ofz n (fun i hi => h i (by omega))
    obtain ⟨f, hf⟩ := h n (by omega)
    refine ⟨fs ++ [f], by simp [hl], fun i hi => ?_⟩
    by_cases hin : i < fs.length
    · rw [List.getElem_append_left hin]; exact hp i hin
    · have : i = fs.length := by simp at hi; omega
      subst this
      rw [List.getElem_append_right (by omega)]
      simpa [hl] using hf
theorem open_fieldsz (hv : Value.okWide Tryz.prog W r b 22 v) (h : DataW.Trod enc Tryz.prog W base spare held 22 v d ps) : ∃ A n c fs, v = .slice A n c ∧ FL W A n fs ∧ ∀ f ∈ fs, -2147483648 ≤ f.z ∧ f.z ≤ 2147483647 := by
  obtain ⟨a, len, cap, rfl⟩ := okWide_slice Tryz.underlying22 hv
  obtain ⟨fuel, hf⟩ := h
  have c6 : Tryz.prog.cellsOf 45 = 6 := by kernel_rfl
  rcases DataW.trod_slice Tryz.underlying22 hf with ⟨hcs, _⟩ | ⟨a', len', cap', elems, rest, n, _, hcs, _, _, hl, hm, hlen, hel, _⟩
  · simp [Value.cells] at hcs
    obtain ⟨rfl, rfl, rfl⟩ := hcs
    exact ⟨none, 0, 0, [], rfl, ⟨Reads.none_, (fun f hf => by cases hf)⟩, (fun f hf => by cases hf)⟩
  · simp [Value.cells] at hcs
    obtain ⟨rfl, rfl, rfl⟩ := hcs
    have each : ∀ i, i < len → ∃ f : Cl.Fd, (∀ j, j < 6 → W.cell? ((a'.add (i * 6)).add j) = (fc f)[j]?) ∧ (SL W f.A f.n f.l ∧ -2147483648 ≤ f.z ∧ f.z ≤ 2147483647) ∧ (a'.add (i * 6)).block < W.heap.size := fun i hi => by
      have := hel i hi
      rw [c6, List.getElem?_eq_getElem (by omega), Option.bind_eq_some_iff] at this
      obtain ⟨cs, h1, h2⟩ := this
      obtain ⟨f, rfl, hs⟩ := open_fdz h2
      exact ⟨f, (World.cells?_some h1).2.2, hs, World.cells?_block h1 (by decide)⟩
    obtain ⟨fs, hfl, hfp⟩ := list_ofz len each
    refine ⟨some a', len, cap, fs, rfl, ⟨⟨by rw [fvs_len]; omega, fun h0 => ⟨a', rfl, ?_, fun j u hu => ?_⟩⟩, fun f hf => ?_⟩, fun f hf => ?_⟩
    · have := (hfp 0 (by omega)).2.2
      rwa [block_of_add] at this
    · have hj : j < fs.length * 6 := by
        have := (List.getElem?_eq_some_iff.1 hu).1
        rwa [fvs_len] at this
      have hq : j / 6 < fs.length := by omega
      have e : j = j / 6 * 6 + j % 6 := by omega
      have h1 := (hfp (j / 6) hq).1 (j % 6) (by omega)
      rw [add_of_add, ← e] at h1
      rw [h1, ← fvs_at fs (j / 6) (j % 6) hq (by omega), ← e, hu]
    · obtain ⟨i, hi, rfl⟩ := List.getElem_of_mem hf
      exact (hfp i hi).2.1.1
    · obtain ⟨i, hi, rfl⟩ := List.getElem_of_mem hf
      exact (hfp i hi).2.1.2
theorem open_plainW (hv : Value.okWide Tryz.prog W r b 43 v) (h : DataW.Trod enc Tryz.prog W base spare held 43 v d ps) :
    ∃ k t i z A n c l, v = plainV k t i z A n c ∧ SL W A n l ∧ -2147483648 ≤ z ∧ z ≤ 2147483647 := by
  simp only [Value.okWide, Tryz.underlying43] at hv
  obtain ⟨cs, rfl, hsz, _⟩ := hv
  have hc5 : Tryz.prog.cellsOf 43 = 5 := by kernel_rfl
  rw [hc5] at hsz
  obtain ⟨fuel, hf⟩ := h
  have hcl : (Value.agg cs).cells.toList = cs.toList := rfl
  rw [hcl] at hf
  obtain ⟨x0, x1, x2, x3, x4, hx⟩ : ∃ x0 x1 x2 x3 x4, cs = #[x0, x1, x2, x3, x4] := by
    rcases cs with ⟨l⟩
    match l, hsz with
    | [a, b, c, d, e], _ => exact ⟨a, b, c, d, e, rfl⟩
  subst hx
  obtain ⟨k, t, i, z, A, n, c, l, e, hs, hz⟩ := open_plainZ hf
  simp only [List.cons.injEq, and_true] at e
  obtain ⟨rfl, rfl, rfl, rfl, rfl⟩ := e
  exact ⟨k, t, i, z, A, n, c, l, rfl, hs, hz⟩
theorem open_strsW (hv : Value.okWide Tryz.prog W r b 23 v) (h : DataW.Trod enc Tryz.prog W base spare held 23 v d ps) : ∃ A n c l, v = .slice A n c ∧ SL W A n l := by
  obtain ⟨a, len, cap, rfl⟩ := okWide_slice Tryz.underlying23 hv
  obtain ⟨fuel, hf⟩ := h
  obtain ⟨A, n, c, l, e, hs⟩ := open_strs (u := .slice a len cap) (by simpa [Value.cells] using hf)
  exact ⟨A, n, c, l, e, hs⟩
end
end Go.Proofs.YtapjbdigpleekaaGreat.Rw
