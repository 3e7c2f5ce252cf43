/- How an argument of option steps is opened. -/
import Derived.Test.YtefabkcfeekfiaaRw
import Derived.Test.YtefabkcfeekfiaaOpt
import Derived.Deep.Slices
import Derived.Deep.Fields
import Derived.ChangeSame
set_option linter.unusedVariables false
set_option linter.unusedSimpArgs false
namespace Go.Proofs.Ytefabkcfeekfiaa.Rw
open Go.ChangeShapes Go.WideShapes Go.Deep Go.RowKit Go.Proofs.Ytefabkcfeekfiaa.K Go.Proofs.Ytefabkcfeekfiaa.Opt
theorem gather {α : Type} (n : Nat) (p : Nat → α → Prop) (h : ∀ i, i < n → ∃ x, p i x) : ∃ xs : List α, xs.length = n ∧ ∀ i (hi : i < xs.length), p i (xs[i]'hi) := by
  induction n with
  | zero => exact ⟨[], rfl, fun i hi => by simp at hi⟩
  | succ n ih =>
    obtain ⟨xs, hl, hp⟩ := ih fun i hi => h i (by omega)
    obtain ⟨x, hx⟩ := h n (by omega)
    refine ⟨xs ++ [x], by simp [hl], fun i hi => ?_⟩
    rcases Nat.lt_or_ge i xs.length with h1 | h1
    · rw [List.getElem_append_left h1]; exact hp i h1
    · have : i = n := by simp [hl] at hi; omega
      subst this
      rw [List.getElem_append_right (by omega)]
      simpa [hl] using hx
section
variable {H : Type} {enc : TypeId × Value → H} {P : Program} {w : World} {base : Nat} {spare : Nat → Bool} {held : Bool}
theorem open_slice_fields {t e : TypeId} {fs : Array Field} {fuel : Nat} {cs : List Value} {x : DataW H × List MemPlace} (ht : P.underlying t = some (.slice e)) (he : P.underlying e = some (.struct fs))
    (hone : oneCellFields P fs = true) (hC : P.cellsOf e = fs.size) (h : DataW.trod enc P w base spare held fuel t cs = some x) :
    (cs = [.slice none 0 0] ∧ x = (.nil, [])) ∨
    ∃ (a : Addr) (len cap m : Nat) (D : Nat → DataW H) (Pl : Nat → List MemPlace), cs = [.slice (some a) len cap] ∧ base ≤ a.block ∧ len ≤ cap ∧ cap ≤ maxLen ∧ m = (if spare a.block then cap else len) ∧
      x = (.slice ((List.range len).map D) ((List.range (m - len)).map fun j => D (len + j)), MemPlace.row a (m * fs.size) ++ (List.range m).flatMap Pl) ∧
      ∀ i, i < m → ∃ (ys : List (DataW H × List MemPlace)) (n : Nat), D i = .agg (ys.map (·.1)) ∧ Pl i = ys.flatMap (·.2) ∧ ys.length = fs.size ∧
        ∀ (j : Nat) (f : Field), fs[j]? = some f → ∃ (v : Value) (y : DataW H × List MemPlace), w.cell? (a.add (i * fs.size + j)) = some v ∧ ys[j]? = some y ∧ DataW.trod enc P w base spare held n f.type [v] = some y := by
  rcases open_slice ht h with h0 | ⟨a, len, cap, m, n, D, Pl, hcs, hb, hl, hm, hmm, hx, hi⟩
  · exact .inl h0
  · refine .inr ⟨a, len, cap, m, D, Pl, hcs, hb, hl, hm, hmm, by rw [hC] at hx; exact hx, fun i him => ?_⟩
    obtain ⟨cs', hc, ht'⟩ := hi i him
    rw [hC] at hc
    obtain ⟨ys, n', hn', hy, hlen, hyl, hf⟩ := DataW.trod_struct he ht'
    obtain ⟨_, hcl, hat⟩ := World.cells?_some hc
    simp only [Prod.mk.injEq] at hy
    refine ⟨ys, n', hy.1, hy.2, hyl, fun j f hj => ?_⟩
    obtain ⟨ho, hk⟩ := hone_of hone j f hj
    have hjl : j < fs.size := (Array.getElem?_eq_some_iff.1 hj).1
    have hcell := hat j hjl
    have hv : cs'[j]? = some (cs'[j]'(by omega)) := List.getElem?_eq_getElem (by omega)
    have h1 := hf j f hj
    rw [ho, hk] at h1
    have hone' : (cs'.drop j).take 1 = [cs'[j]'(by omega)] := by
      rw [List.drop_eq_getElem_cons (by omega)]
      rfl
    rw [hone'] at h1
    have hys : ys[j]? = some (ys[j]'(by omega)) := List.getElem?_eq_getElem (by omega)
    refine ⟨_, _, ?_, hys, h1.trans hys⟩
    rw [← Go.Deep.add_add, hcell, hv]
end
theorem open_steps {H : Type} {enc : TypeId × Value → H} {W : World} {base b : Nat} {spare : Nat → Bool} {held : Bool} {v : Value} {d : DataW H} {ps : List MemPlace} {ts : List TypeId} {ds : List (DataW H)} {j : Nat} {r : Reach}
    (hsz : (DataW.weightsEach Try.prog ts ds).all (· ≤ reachBytes) = true) (ht : ts[j]? = some 22) (hd : ds[j]? = some d)
    (hv : Value.okWide Try.prog W r b 22 v) (h : DataW.Trod enc Try.prog W base spare held 22 v d ps) :
    ∃ (a : Option Addr) (len cap : Nat) (l : List (Int × Nat)), v = .slice a len cap ∧ RS W a len l ∧ len ≤ cap ∧ len ≤ 140737488351232 ∧ ∀ x ∈ l, x.2 < 18446744073709551616 := by
  obtain ⟨a, len, cap, rfl⟩ := okWide_slice Try.underlying22 hv
  obtain ⟨fuel, hf⟩ := h
  rcases open_slice_fields (P := Try.prog) Try.underlying22 Try.underlying29 (by kernel_rfl) (by kernel_rfl) hf with ⟨hcs, _⟩ | ⟨x, l, c, m, D, Pl, hcs, _, hl, hm, hmm, hx, hi⟩
  · simp [Value.cells] at hcs
    obtain ⟨rfl, rfl, rfl⟩ := hcs
    exact ⟨none, 0, 0, [], rfl, Reads.none_, Nat.le_refl _, by omega, fun x hx => by simp at hx⟩
  · simp [Value.cells] at hcs
    obtain ⟨rfl, rfl, rfl⟩ := hcs
    obtain ⟨hx, _⟩ := Prod.mk.inj hx
    subst hx
    have z := sized_slice hsz ht hd Try.underlying22
    have hB : Try.prog.bytesOf 29 = 16 := by kernel_rfl
    rw [hB] at z
    simp only [List.length_map, List.length_range, reachBytes] at z
    have hlm : len ≤ m := by rw [hmm]; split <;> omega
    obtain ⟨xs, hxl, hxp⟩ := gather len (fun i (x : Int × Nat) => W.cell? (Addr.add _ (i * 2)) = some (.int .i64 x.1) ∧ W.cell? (Addr.add _ (i * 2 + 1)) = some (.int .u64 x.2) ∧ x.2 < 18446744073709551616) fun i hil => by
      obtain ⟨ys, n, _, _, _, hfl⟩ := hi i (by omega)
      obtain ⟨v0, y0, hc0, _, ht0⟩ := hfl 0 _ rfl
      obtain ⟨v1, y1, hc1, _, ht1⟩ := hfl 1 _ rfl
      obtain ⟨k, e0, _, w0⟩ := DataW.trod_int Try.underlying3 ht0
      obtain ⟨b, e1, _, w1⟩ := DataW.trod_int Try.underlying23 ht1
      simp at e0 e1
      subst e0 e1
      have hb : 0 ≤ b ∧ b ≤ 18446744073709551615 := by
        simp [Lit.wf, IntKind.min, IntKind.max, IntKind.signed, IntKind.bits] at w1
        exact w1
      obtain ⟨b, rfl⟩ := Int.eq_ofNat_of_zero_le hb.1
      exact ⟨(k, b), hc0, hc1, by omega⟩
    refine ⟨_, len, cap, xs, rfl, ⟨by rw [stvs_length, hxl], fun h0 => ⟨_, rfl, ?_, fun q u hu => ?_⟩⟩, hl, by omega, fun y hy => ?_⟩
    · have := World.block_lt_of_cell? W _ (hxp 0 (by omega)).1
      rwa [block_of_add] at this
    · have hq : q < xs.length * 2 := by
        have := (List.getElem?_eq_some_iff.1 hu).1
        rwa [stvs_length] at this
      have hs := stvs_at xs (q / 2) (by omega)
      have hp := hxp (q / 2) (by omega)
      rcases Nat.mod_two_eq_zero_or_one q with h2 | h2
      · have e : q / 2 * 2 = q := by omega
        rw [e] at hs hp
        rw [hs.1] at hu
        exact hp.1.trans hu
      · have e : q / 2 * 2 + 1 = q := by omega
        rw [e] at hs hp
        rw [hs.2] at hu
        exact hp.2.1.trans hu
    · obtain ⟨i, hi, rfl⟩ := List.getElem_of_mem hy
      exact (hxp i hi).2.2
end Go.Proofs.Ytefabkcfeekfiaa.Rw
