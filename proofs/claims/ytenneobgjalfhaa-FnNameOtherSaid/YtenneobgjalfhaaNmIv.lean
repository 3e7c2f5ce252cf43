/- What the sort keeps of a slice: its row holds the same elements, all else is as it was; the swap keeps it. The conditions: from 2 to 19 elements. -/
import Derived.Test.YtenneobgjalfhaaNmSort13
import Derived.Test.YtenneobgjalfhaaNmReg
set_option linter.unusedVariables false
set_option linter.unusedSimpArgs false
namespace Go.Proofs.Ytenneobgjalfhaa.So
open Go.RowKit Go.Proofs.Ytenneobgjalfhaa.K Go.Lib Go.Proofs.Ytenneobgjalfhaa.Nm
/-- The same elements in some order, in block blk; all else is as it was in w0. -/
structure Iv {α : Type} (f : α → List Value) (w0 : World) (blk : Nat) (T : TypeId) (n : Nat) (L0 : List α) (rest : List Value) (W : World) : Prop where
  gr : w0.grownBy W (some blk)
  ex : ∃ xs : List α, xs.length = n ∧ (∀ p, p ∈ xs ↔ p ∈ L0) ∧ Blk W blk T (xs.flatMap f ++ rest).toArray
section
variable {α : Type} {f : α → List Value} {w0 W W' : World} {blk n : Nat} {T : TypeId} {L0 : List α} {rest : List Value}
theorem Iv.grow (h : Iv f w0 blk T n L0 rest W) (hb : blk < w0.heap.size) {r : Option Nat} (hg : W.grownBy W' r) (hr : ∀ j, r = some j → w0.heap.size ≤ j) : Iv f w0 blk T n L0 rest W' := by
  obtain ⟨xs, h1, h2, h3⟩ := h.ex
  refine ⟨⟨hg.os.trans h.gr.os, hg.tape.trans h.gr.tape, hg.output.trans h.gr.output, Nat.le_trans h.gr.size hg.size, fun k hk hne => ?_⟩, xs, h1, h2, h3.grown hg (fun e => by have := hr blk e.symm; omega)⟩
  exact (hg.block k (Nat.lt_of_lt_of_le hk h.gr.size) (fun e => by have := hr k e.symm; omega)).trans (h.gr.block k hk hne)
theorem Iv.drew (h : Iv f w0 blk T n L0 rest W) : Iv f w0 blk T n L0 rest W.drew :=
  ⟨grown_drewN h.gr 1, h.ex⟩
theorem flat1 (g : α → Value) (xs : List α) : xs.flatMap (fun p => [g p]) = xs.map g := by
  induction xs with
  | nil => rfl
  | cons x xs ih => simp [ih]
theorem set2 : ∀ (xs : List (ByteArray × Bool)) (i : Nat) (p : ByteArray × Bool), i < xs.length → (xs.set i p).flatMap f2 = ((xs.flatMap f2).set (i * 2) (.string p.1)).set (i * 2 + 1) (.bool p.2)
  | x :: xs, 0, p, _ => rfl
  | x :: xs, i + 1, p, h => by
    have ih := set2 xs i p (by simpa using h)
    have e : (i + 1) * 2 = i * 2 + 2 := by omega
    rw [List.set_cons_succ, List.flatMap_cons, ih, List.flatMap_cons, e]
    simp [f2]
theorem len2 (xs : List (ByteArray × Bool)) : (xs.flatMap f2).length = xs.length * 2 := by
  induction xs with
  | nil => rfl
  | cons x xs ih => simp only [List.flatMap_cons, List.length_append, ih, List.length_cons]; simp [f2]; omega
/-- The swap of two elements of one cell. -/
theorem swap1 (g : α → Value) (hg1 : ∀ p, (g p).oneCell' = true) {e : TypeId} {ie : TypeInfo} (hie : Try.prog.info? e = some ie) (hs : ie.size = 1) (hagg : ∀ w, (isAgg e).run Try.prog w = .ok false w)
    (h : Iv (fun p => [g p]) w0 blk T n L0 rest W) (c i j : Nat) (hi : i < n) (hj : j < n) :
    ∃ W', (callFunc 71 (#[.int .i64 (i : Nat), .int .i64 (j : Nat)] ++ #[.slice (some ⟨blk, 0, none⟩) n c, typeHandle Try.prog e])).run Try.prog W = .ok (.value (.tuple #[])) W' ∧ Iv (fun p => [g p]) w0 blk T n L0 rest W' ∧ W.grownBy W' (some blk) := by
  obtain ⟨xs, rfl, h2, h3⟩ := h.ex
  have hcell : ∀ k (hk : k < xs.length), W.cell? ⟨blk, 0 + k, none⟩ = some (g xs[k]) := fun k hk => by
    rw [h3.cell, Nat.zero_add, flat1]
    simp [List.getElem?_append_left, hk]
  have hgb : W.grownBy ((W.setCell ⟨blk, 0 + i, none⟩ (g xs[j])).setCell ⟨blk, 0 + j, none⟩ (g xs[i])) (some blk) := grown_trans (setCell_grown W ⟨blk, 0 + i, none⟩ _) (setCell_grown _ ⟨blk, 0 + j, none⟩ _)
  have hr := run_swap_one (P := Try.prog) false e ie hie hs hagg blk 0 xs.length c i j hi hj (g xs[i]) (g xs[j]) (hg1 _) (hg1 _) W (hcell i hi) (hcell j hj) (h3.frozen _) (h3.frozen _)
  refine ⟨_, ?_, ⟨grown_trans h.gr hgb, (xs.set i xs[j]).set j xs[i], by simp, fun p => ?_, ?_⟩, hgb⟩
  · rw [call_swap9]
    show ((Extern.ReflectliteSwapper.swap false #[.int .i64 (i : Nat), .int .i64 (j : Nat), .slice (some ⟨blk, 0, none⟩) xs.length c, typeHandle Try.prog e]).run Try.prog W).andThen _ = _
    rw [hr]
    rfl
  · rw [← h2]; exact (List.set_set_perm hi hj).mem_iff
  · have hb := (h3.set_ (0 + i) (g xs[j])).set_ (0 + j) (g xs[i])
    rw [flat1] at hb ⊢
    simp only [Nat.zero_add, List.setIfInBounds_toArray] at hb ⊢
    rw [List.set_append_left _ _ (by simpa using hi), List.set_append_left _ _ (by simpa using hj)] at hb
    simpa [List.map_set] using hb
theorem setCells2 (w : World) (b o : Nat) (x y : Value) : w.setCells b o [x, y] = (w.setCell ⟨b, o, none⟩ x).setCell ⟨b, o + 1, none⟩ y := rfl
theorem put2 {w : World} {T : TypeId} {xs : List (ByteArray × Bool)} {rest : List Value} (h : Blk w blk T (xs.flatMap f2 ++ rest).toArray) (i : Nat) (p : ByteArray × Bool) (hi : i < xs.length) :
    Blk (w.setCells blk (0 + i * 2) (f2 p)) blk T ((xs.set i p).flatMap f2 ++ rest).toArray ∧ w.grownBy (w.setCells blk (0 + i * 2) (f2 p)) (some blk) := by
  have hl := len2 xs
  have hb := (h.set_ (0 + i * 2) (.string p.1)).set_ (0 + i * 2 + 1) (.bool p.2)
  refine ⟨?_, grown_trans (setCell_grown w ⟨blk, 0 + i * 2, none⟩ _) (setCell_grown _ ⟨blk, 0 + i * 2 + 1, none⟩ _)⟩
  show Blk ((w.setCell ⟨blk, 0 + i * 2, none⟩ (.string p.1)).setCell ⟨blk, 0 + i * 2 + 1, none⟩ (.bool p.2)) _ _ _
  simp only [Nat.zero_add, List.setIfInBounds_toArray] at hb ⊢
  rw [List.set_append_left _ _ (by omega), List.set_append_left _ _ (by rw [List.length_set]; omega)] at hb
  rw [set2 xs i p hi]
  exact hb
/-- The swap of two elements of two cells. -/
theorem swap2 {e : TypeId} {ie : TypeInfo} (hie : Try.prog.info? e = some ie) (hs : ie.size = 2) (hagg : ∀ w, (isAgg e).run Try.prog w = .ok true w)
    {L0 : List (ByteArray × Bool)} (h : Iv f2 w0 blk T n L0 rest W) (c i j : Nat) (hi : i < n) (hj : j < n) :
    ∃ W', (callFunc 71 (#[.int .i64 (i : Nat), .int .i64 (j : Nat)] ++ #[.slice (some ⟨blk, 0, none⟩) n c, typeHandle Try.prog e])).run Try.prog W = .ok (.value (.tuple #[])) W' ∧ Iv f2 w0 blk T n L0 rest W' ∧ W.grownBy W' (some blk) := by
  obtain ⟨xs, rfl, h2, h3⟩ := h.ex
  have hcell : ∀ k (hk : k < xs.length) (m : Nat) (v : Value), (f2 xs[k])[m]? = some v → W.cell? ⟨blk, 0 + k * ie.size + m, none⟩ = some v := fun k hk m v hv => by
    obtain ⟨h1, h2⟩ := flat2_at xs k hk
    have hl := len2 xs
    rw [h3.cell, Nat.zero_add, hs]
    simp only [List.getElem?_toArray]
    match m, hv with
    | 0, hv =>
      have e : some v = some (Value.string xs[k].1) := hv.symm
      rw [e, Nat.add_zero, List.getElem?_append_left (by omega)]; exact h1
    | 1, hv =>
      have e : some v = some (Value.bool xs[k].2) := hv.symm
      rw [e, List.getElem?_append_left (by omega)]; exact h2
  obtain ⟨b1, g1⟩ := put2 h3 i xs[j] hi
  obtain ⟨b2, g2⟩ := put2 b1 j xs[i] (by simpa using hj)
  have one2 : ∀ p : ByteArray × Bool, ∀ v ∈ f2 p, v.oneCell' = true := fun p v hv => by
    simp only [f2, List.mem_cons, List.not_mem_nil, or_false] at hv
    rcases hv with rfl | rfl <;> rfl
  have hr := run_swap_cells (P := Try.prog) false e ie hie hagg blk 0 xs.length c i j hi hj (f2 xs[i]) (f2 xs[j]) (by rw [hs]; rfl) (by rw [hs]; rfl) (one2 _) (one2 _) W (hcell i hi) (hcell j hj) (fun k _ => h3.frozen _) (fun k _ => h3.frozen _)
  refine ⟨_, ?_, ⟨grown_trans h.gr (grown_trans g1 g2), (xs.set i xs[j]).set j xs[i], by simp, fun p => ?_, b2⟩, grown_trans g1 g2⟩
  · rw [call_swap9]
    show ((Extern.ReflectliteSwapper.swap false #[.int .i64 (i : Nat), .int .i64 (j : Nat), .slice (some ⟨blk, 0, none⟩) xs.length c, typeHandle Try.prog e]).run Try.prog W).andThen _ = _
    rw [hr, hs]
    rfl
  · rw [← h2]; exact (List.set_set_perm hi hj).mem_iff
end
end Go.Proofs.Ytenneobgjalfhaa.So
