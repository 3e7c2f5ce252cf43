/- The six lists of the named algorithms that are built in; no condition. Printed by gen_bi.py. -/
import Derived.Test.YtlbnemnadegapaaDoorNqNew
set_option linter.unusedVariables false
set_option linter.unusedSimpArgs false
namespace Go.Proofs.YtlbnemnadegapaaDoor.Nq
open Go.RowKit Go.Proofs.YtlbnemnadegapaaDoor.K
theorem st1 {w : World} {b : Nat} {T : TypeId} {cs : Array Value} (h : Blk w b T cs) (i : Nat) (hi : i < cs.size) : (∃ v, w.cell? ⟨b, i, none⟩ = some v) ∧ w.frozen? ⟨b, i, none⟩ = false :=
  ⟨⟨cs[i], by rw [h.cell]; exact Array.getElem?_eq_getElem hi⟩, h.frozen i⟩
theorem st2 {w : World} {b : Nat} {T : TypeId} {cs : Array Value} (h : Blk w b T cs) (i : Nat) (hi : i + 1 < cs.size) (x y : Value) :
    ((∃ v, w.cell? ⟨b, i, none⟩ = some v) ∧ w.frozen? ⟨b, i, none⟩ = false) ∧ ((∃ v, (w.setCell ⟨b, i, none⟩ x).cell? ⟨b, i + 1, none⟩ = some v) ∧ (w.setCell ⟨b, i, none⟩ x).frozen? ⟨b, i + 1, none⟩ = false) ∧
      Blk ((w.setCell ⟨b, i, none⟩ x).setCell ⟨b, i + 1, none⟩ y) b T ((cs.setIfInBounds i x).setIfInBounds (i + 1) y) ∧ w.grownBy ((w.setCell ⟨b, i, none⟩ x).setCell ⟨b, i + 1, none⟩ y) (some b) :=
  ⟨st1 h i (by omega), st1 (h.set_ i x) (i + 1) (by simpa using hi), (h.set_ i x).set_ (i + 1) y, grown_trans (setCell_grown w ⟨b, i, none⟩ x) (setCell_grown _ ⟨b, i + 1, none⟩ y)⟩
theorem st3 {w : World} {b : Nat} {T : TypeId} {cs : Array Value} (h : Blk w b T cs) (i : Nat) (hi : i + 2 < cs.size) (x y z : Value) :
    ((∃ v, w.cell? ⟨b, i, none⟩ = some v) ∧ w.frozen? ⟨b, i, none⟩ = false) ∧ ((∃ v, (w.setCell ⟨b, i, none⟩ x).cell? ⟨b, i + 1, none⟩ = some v) ∧ (w.setCell ⟨b, i, none⟩ x).frozen? ⟨b, i + 1, none⟩ = false) ∧
      ((∃ v, ((w.setCell ⟨b, i, none⟩ x).setCell ⟨b, i + 1, none⟩ y).cell? ⟨b, i + 2, none⟩ = some v) ∧ ((w.setCell ⟨b, i, none⟩ x).setCell ⟨b, i + 1, none⟩ y).frozen? ⟨b, i + 2, none⟩ = false) ∧
      Blk (((w.setCell ⟨b, i, none⟩ x).setCell ⟨b, i + 1, none⟩ y).setCell ⟨b, i + 2, none⟩ z) b T (((cs.setIfInBounds i x).setIfInBounds (i + 1) y).setIfInBounds (i + 2) z) ∧ w.grownBy (((w.setCell ⟨b, i, none⟩ x).setCell ⟨b, i + 1, none⟩ y).setCell ⟨b, i + 2, none⟩ z) (some b) :=
  ⟨st1 h i (by omega), st1 (h.set_ i x) (i + 1) (by simp; omega), st1 ((h.set_ i x).set_ (i + 1) y) (i + 2) (by simp; omega), ((h.set_ i x).set_ (i + 1) y).set_ (i + 2) z, grown_trans (grown_trans (setCell_grown w ⟨b, i, none⟩ x) (setCell_grown _ ⟨b, i + 1, none⟩ y)) (setCell_grown _ ⟨b, i + 2, none⟩ z)⟩
def tabCompression : List (ByteArray × Bool) := [(⟨#[68, 69, 70]⟩, false), (⟨#[]⟩, false)]
def cellsCompression : Array Value := #[.string ⟨#[68, 69, 70]⟩, .bool false, .string ⟨#[]⟩, .bool false]
def zeroCompression : Array Value := #[.string ⟨#[]⟩, .bool false, .string ⟨#[]⟩, .bool false]
def tabEllipticCurve : List (ByteArray × Bool) := [(⟨#[69, 100, 50, 53, 53, 49, 57]⟩, false), (⟨#[69, 100, 52, 52, 56]⟩, false), (⟨#[80, 45, 50, 53, 54]⟩, false), (⟨#[80, 45, 51, 56, 52]⟩, false), (⟨#[80, 45, 53, 50, 49]⟩, false), (⟨#[88, 50, 53, 53, 49, 57]⟩, false), (⟨#[88, 52, 52, 56]⟩, false)]
def cellsEllipticCurve : Array Value := #[.string ⟨#[69, 100, 50, 53, 53, 49, 57]⟩, .bool false, .string ⟨#[69, 100, 52, 52, 56]⟩, .bool false, .string ⟨#[80, 45, 50, 53, 54]⟩, .bool false, .string ⟨#[80, 45, 51, 56, 52]⟩, .bool false, .string ⟨#[80, 45, 53, 50, 49]⟩, .bool false, .string ⟨#[88, 50, 53, 53, 49, 57]⟩, .bool false, .string ⟨#[88, 52, 52, 56]⟩, .bool false]
def zeroEllipticCurve : Array Value := #[.string ⟨#[]⟩, .bool false, .string ⟨#[]⟩, .bool false, .string ⟨#[]⟩, .bool false, .string ⟨#[]⟩, .bool false, .string ⟨#[]⟩, .bool false, .string ⟨#[]⟩, .bool false, .string ⟨#[]⟩, .bool false]
def tabKeyType : List (ByteArray × Bool) := [(⟨#[69, 67]⟩, false), (⟨#[79, 75, 80]⟩, false), (⟨#[111, 99, 116]⟩, false), (⟨#[82, 83, 65]⟩, false)]
def cellsKeyType : Array Value := #[.string ⟨#[69, 67]⟩, .bool false, .string ⟨#[79, 75, 80]⟩, .bool false, .string ⟨#[111, 99, 116]⟩, .bool false, .string ⟨#[82, 83, 65]⟩, .bool false]
def zeroKeyType : Array Value := #[.string ⟨#[]⟩, .bool false, .string ⟨#[]⟩, .bool false, .string ⟨#[]⟩, .bool false, .string ⟨#[]⟩, .bool false]
theorem mkKeyType (W : World) : Sem.run Tryd.prog (Instr.makeSlice 213 (.int .i64 4) (.int .i64 4)) W = .ok (.slice (some ⟨W.heap.size, 0, none⟩) 4 4) (W.alloc (.cells zeroKeyType 207)) := by kernel_rfl
set_option maxRecDepth 100000 in
set_option maxHeartbeats 4000000 in
theorem builtinKeyTypes_calls (w : World) : Calls Tryd.prog 119 #[] w fun e w' => e = .returned (.slice (some ⟨w.heap.size, 0, none⟩) 4 4) ∧ Below w.heap.size w w' ∧ Blk w' w.heap.size 207 cellsKeyType := by
  have hmk := mkKeyType w
  obtain ⟨b, hbe⟩ : ∃ b, b = w.heap.size := ⟨_, rfl⟩
  obtain ⟨cs0, hcs0⟩ : ∃ cs0, cs0 = zeroKeyType := ⟨_, rfl⟩
  have hs0 : cs0.size = 8 := by rw [hcs0]; rfl
  rw [← hcs0] at hmk
  obtain ⟨y0, hy0⟩ : ∃ y0, y0 = w.alloc (.cells cs0 207) := ⟨_, rfl⟩
  rw [← hy0, ← hbe] at hmk
  have HB := Lib.hid (show Blk y0 b 207 cs0 by rw [hy0, hbe]; exact Blk.new w _ _)
  have HD := Lib.hid (show Below w.heap.size w y0 by rw [hy0]; exact below_alloc' (Below.refl w.heap.size w) _)
  have HC := Lib.hid hcs0
  have HE := Lib.hid hbe
  rw [← hbe]
  clear hy0 hcs0 hbe
  go_enter Tryd.func119, Tryd.ntmps119
  go_wp2_with fail
  refine (NewKeyType_calls _ _).mono ?_
  rintro e w1 ⟨rfl, hB⟩
  have hk0 := HB.out.below hB HB.out.lt
  have HDn := Lib.hid (below_then HD.out hB)
  clear hB
  obtain ⟨⟨⟨v0_0, p0_0⟩, f0_0⟩, ⟨⟨v0_1, p0_1⟩, f0_1⟩, hk1, g0⟩ := st2 hk0 0 (by rw [hs0]; omega) (.string ⟨#[69, 67]⟩) (.bool false)
  obtain ⟨cs1, hcn0⟩ : ∃ cs1, cs1 = ((cs0.setIfInBounds 0 (.string ⟨#[69, 67]⟩)).setIfInBounds 1 (.bool false)) := ⟨_, rfl⟩
  obtain ⟨z0, hz0⟩ : ∃ z0, z0 = ((w1.setCell ⟨b, 0, none⟩ (.string ⟨#[69, 67]⟩)).setCell ⟨b, 1, none⟩ (.bool false)) := ⟨_, rfl⟩
  have hs1 : cs1.size = 8 := by rw [hcn0]; simp [hs0]
  simp only [Nat.reduceAdd] at p0_1 f0_1 hk1 g0
  rw [← hz0] at hk1 g0
  rw [← hcn0] at hk1
  have HC0 := Lib.hid hcn0
  clear hcn0
  have HBn := Lib.hid hk1
  have HG := Lib.hid (g0)
  have HDm := Lib.hid (show Below w.heap.size w z0 from HDn.out.grown HG.out HDn.out.size (by intro j hj; cases hj; rw [HE.out]; exact Nat.le_refl _))
  clear HB HD hk0 hk1 g0 HDn HG
  go_wp2_with fail
  rw [← hz0]
  clear hz0 p0_0 f0_0 p0_1 f0_1
  have HC_0 := HC0
  clear HC0
  have HB := HBn
  have HD := HDm
  clear HBn HDm
  refine (NewKeyType_calls _ _).mono ?_
  rintro e w1 ⟨rfl, hB⟩
  have hk0 := HB.out.below hB HB.out.lt
  have HDn := Lib.hid (below_then HD.out hB)
  clear hB
  obtain ⟨⟨⟨v0_0, p0_0⟩, f0_0⟩, ⟨⟨v0_1, p0_1⟩, f0_1⟩, hk1, g0⟩ := st2 hk0 2 (by rw [hs1]; omega) (.string ⟨#[79, 75, 80]⟩) (.bool false)
  obtain ⟨cs2, hcn0⟩ : ∃ cs2, cs2 = ((cs1.setIfInBounds 2 (.string ⟨#[79, 75, 80]⟩)).setIfInBounds 3 (.bool false)) := ⟨_, rfl⟩
  obtain ⟨z0, hz0⟩ : ∃ z0, z0 = ((w1.setCell ⟨b, 2, none⟩ (.string ⟨#[79, 75, 80]⟩)).setCell ⟨b, 3, none⟩ (.bool false)) := ⟨_, rfl⟩
  have hs2 : cs2.size = 8 := by rw [hcn0]; simp [hs1]
  simp only [Nat.reduceAdd] at p0_1 f0_1 hk1 g0
  rw [← hz0] at hk1 g0
  rw [← hcn0] at hk1
  have HC0 := Lib.hid hcn0
  clear hcn0
  have HBn := Lib.hid hk1
  have HG := Lib.hid (g0)
  have HDm := Lib.hid (show Below w.heap.size w z0 from HDn.out.grown HG.out HDn.out.size (by intro j hj; cases hj; rw [HE.out]; exact Nat.le_refl _))
  clear HB HD hk0 hk1 g0 HDn HG
  go_wp2_with fail
  rw [← hz0]
  clear hz0 p0_0 f0_0 p0_1 f0_1
  have HC_1 := HC0
  clear HC0
  have HB := HBn
  have HD := HDm
  clear HBn HDm
  refine (NewKeyType_calls _ _).mono ?_
  rintro e w1 ⟨rfl, hB⟩
  have hk0 := HB.out.below hB HB.out.lt
  have HDn := Lib.hid (below_then HD.out hB)
  clear hB
  obtain ⟨⟨⟨v0_0, p0_0⟩, f0_0⟩, ⟨⟨v0_1, p0_1⟩, f0_1⟩, hk1, g0⟩ := st2 hk0 4 (by rw [hs2]; omega) (.string ⟨#[111, 99, 116]⟩) (.bool false)
  obtain ⟨cs3, hcn0⟩ : ∃ cs3, cs3 = ((cs2.setIfInBounds 4 (.string ⟨#[111, 99, 116]⟩)).setIfInBounds 5 (.bool false)) := ⟨_, rfl⟩
  obtain ⟨z0, hz0⟩ : ∃ z0, z0 = ((w1.setCell ⟨b, 4, none⟩ (.string ⟨#[111, 99, 116]⟩)).setCell ⟨b, 5, none⟩ (.bool false)) := ⟨_, rfl⟩
  have hs3 : cs3.size = 8 := by rw [hcn0]; simp [hs2]
  simp only [Nat.reduceAdd] at p0_1 f0_1 hk1 g0
  rw [← hz0] at hk1 g0
  rw [← hcn0] at hk1
  have HC0 := Lib.hid hcn0
  clear hcn0
  have HBn := Lib.hid hk1
  have HG := Lib.hid (g0)
  have HDm := Lib.hid (show Below w.heap.size w z0 from HDn.out.grown HG.out HDn.out.size (by intro j hj; cases hj; rw [HE.out]; exact Nat.le_refl _))
  clear HB HD hk0 hk1 g0 HDn HG
  go_wp2_with fail
  rw [← hz0]
  clear hz0 p0_0 f0_0 p0_1 f0_1
  have HC_2 := HC0
  clear HC0
  have HB := HBn
  have HD := HDm
  clear HBn HDm
  refine (NewKeyType_calls _ _).mono ?_
  rintro e w1 ⟨rfl, hB⟩
  have hk0 := HB.out.below hB HB.out.lt
  have HDn := Lib.hid (below_then HD.out hB)
  clear hB
  obtain ⟨⟨⟨v0_0, p0_0⟩, f0_0⟩, ⟨⟨v0_1, p0_1⟩, f0_1⟩, hk1, g0⟩ := st2 hk0 6 (by rw [hs3]; omega) (.string ⟨#[82, 83, 65]⟩) (.bool false)
  obtain ⟨cs4, hcn0⟩ : ∃ cs4, cs4 = ((cs3.setIfInBounds 6 (.string ⟨#[82, 83, 65]⟩)).setIfInBounds 7 (.bool false)) := ⟨_, rfl⟩
  obtain ⟨z0, hz0⟩ : ∃ z0, z0 = ((w1.setCell ⟨b, 6, none⟩ (.string ⟨#[82, 83, 65]⟩)).setCell ⟨b, 7, none⟩ (.bool false)) := ⟨_, rfl⟩
  have hs4 : cs4.size = 8 := by rw [hcn0]; simp [hs3]
  simp only [Nat.reduceAdd] at p0_1 f0_1 hk1 g0
  rw [← hz0] at hk1 g0
  rw [← hcn0] at hk1
  have HC0 := Lib.hid hcn0
  clear hcn0
  have HBn := Lib.hid hk1
  have HG := Lib.hid (g0)
  have HDm := Lib.hid (show Below w.heap.size w z0 from HDn.out.grown HG.out HDn.out.size (by intro j hj; cases hj; rw [HE.out]; exact Nat.le_refl _))
  clear HB HD hk0 hk1 g0 HDn HG
  go_wp2_with fail
  rw [← hz0]
  clear hz0 p0_0 f0_0 p0_1 f0_1
  have HC_3 := HC0
  clear HC0
  have HB := HBn
  have HD := HDm
  clear HBn HDm
  have hfin : cs4 = cellsKeyType := by
    rw [HC_3.out, HC_2.out, HC_1.out, HC_0.out, HC.out]; rfl
  have HB' := HB.out
  rw [hfin] at HB'
  go_ret
  exact ⟨rfl, HE.out ▸ HD.out, HB'⟩
def tabContentEncryption : List (ByteArray × Bool) := [(⟨#[65, 49, 50, 56, 67, 66, 67, 45, 72, 83, 50, 53, 54]⟩, false), (⟨#[65, 49, 50, 56, 71, 67, 77]⟩, false), (⟨#[65, 49, 57, 50, 67, 66, 67, 45, 72, 83, 51, 56, 52]⟩, false), (⟨#[65, 49, 57, 50, 71, 67, 77]⟩, false), (⟨#[65, 50, 53, 54, 67, 66, 67, 45, 72, 83, 53, 49, 50]⟩, false), (⟨#[65, 50, 53, 54, 71, 67, 77]⟩, false)]
def cellsContentEncryption : Array Value := #[.string ⟨#[65, 49, 50, 56, 67, 66, 67, 45, 72, 83, 50, 53, 54]⟩, .bool false, .string ⟨#[65, 49, 50, 56, 71, 67, 77]⟩, .bool false, .string ⟨#[65, 49, 57, 50, 67, 66, 67, 45, 72, 83, 51, 56, 52]⟩, .bool false, .string ⟨#[65, 49, 57, 50, 71, 67, 77]⟩, .bool false, .string ⟨#[65, 50, 53, 54, 67, 66, 67, 45, 72, 83, 53, 49, 50]⟩, .bool false, .string ⟨#[65, 50, 53, 54, 71, 67, 77]⟩, .bool false]
def zeroContentEncryption : Array Value := #[.string ⟨#[]⟩, .bool false, .string ⟨#[]⟩, .bool false, .string ⟨#[]⟩, .bool false, .string ⟨#[]⟩, .bool false, .string ⟨#[]⟩, .bool false, .string ⟨#[]⟩, .bool false]
theorem mkContentEncryption (W : World) : Sem.run Tryd.prog (Instr.makeSlice 177 (.int .i64 6) (.int .i64 6)) W = .ok (.slice (some ⟨W.heap.size, 0, none⟩) 6 6) (W.alloc (.cells zeroContentEncryption 159)) := by kernel_rfl
set_option maxRecDepth 100000 in
set_option maxHeartbeats 4000000 in
theorem builtinContentEncryptionAlgorithms_calls (w : World) : Calls Tryd.prog 77 #[] w fun e w' => e = .returned (.slice (some ⟨w.heap.size, 0, none⟩) 6 6) ∧ Below w.heap.size w w' ∧ Blk w' w.heap.size 159 cellsContentEncryption := by
  have hmk := mkContentEncryption w
  obtain ⟨b, hbe⟩ : ∃ b, b = w.heap.size := ⟨_, rfl⟩
  obtain ⟨cs0, hcs0⟩ : ∃ cs0, cs0 = zeroContentEncryption := ⟨_, rfl⟩
  have hs0 : cs0.size = 12 := by rw [hcs0]; rfl
  rw [← hcs0] at hmk
  obtain ⟨y0, hy0⟩ : ∃ y0, y0 = w.alloc (.cells cs0 159) := ⟨_, rfl⟩
  rw [← hy0, ← hbe] at hmk
  have HB := Lib.hid (show Blk y0 b 159 cs0 by rw [hy0, hbe]; exact Blk.new w _ _)
  have HD := Lib.hid (show Below w.heap.size w y0 by rw [hy0]; exact below_alloc' (Below.refl w.heap.size w) _)
  have HC := Lib.hid hcs0
  have HE := Lib.hid hbe
  rw [← hbe]
  clear hy0 hcs0 hbe
  go_enter Tryd.func77, Tryd.ntmps77
  go_wp2_with fail
  refine (NewContentEncryptionAlgorithm_calls _ _).mono ?_
  rintro e w1 ⟨rfl, hB⟩
  have hk0 := HB.out.below hB HB.out.lt
  have HDn := Lib.hid (below_then HD.out hB)
  clear hB
  obtain ⟨⟨⟨v0_0, p0_0⟩, f0_0⟩, ⟨⟨v0_1, p0_1⟩, f0_1⟩, hk1, g0⟩ := st2 hk0 0 (by rw [hs0]; omega) (.string ⟨#[65, 49, 50, 56, 67, 66, 67, 45, 72, 83, 50, 53, 54]⟩) (.bool false)
  obtain ⟨cs1, hcn0⟩ : ∃ cs1, cs1 = ((cs0.setIfInBounds 0 (.string ⟨#[65, 49, 50, 56, 67, 66, 67, 45, 72, 83, 50, 53, 54]⟩)).setIfInBounds 1 (.bool false)) := ⟨_, rfl⟩
  obtain ⟨z0, hz0⟩ : ∃ z0, z0 = ((w1.setCell ⟨b, 0, none⟩ (.string ⟨#[65, 49, 50, 56, 67, 66, 67, 45, 72, 83, 50, 53, 54]⟩)).setCell ⟨b, 1, none⟩ (.bool false)) := ⟨_, rfl⟩
  have hs1 : cs1.size = 12 := by rw [hcn0]; simp [hs0]
  simp only [Nat.reduceAdd] at p0_1 f0_1 hk1 g0
  rw [← hz0] at hk1 g0
  rw [← hcn0] at hk1
  have HC0 := Lib.hid hcn0
  clear hcn0
  have HBn := Lib.hid hk1
  have HG := Lib.hid (g0)
  have HDm := Lib.hid (show Below w.heap.size w z0 from HDn.out.grown HG.out HDn.out.size (by intro j hj; cases hj; rw [HE.out]; exact Nat.le_refl _))
  clear HB HD hk0 hk1 g0 HDn HG
  go_wp2_with fail
  rw [← hz0]
  clear hz0 p0_0 f0_0 p0_1 f0_1
  have HC_0 := HC0
  clear HC0
  have HB := HBn
  have HD := HDm
  clear HBn HDm
  refine (NewContentEncryptionAlgorithm_calls _ _).mono ?_
  rintro e w1 ⟨rfl, hB⟩
  have hk0 := HB.out.below hB HB.out.lt
  have HDn := Lib.hid (below_then HD.out hB)
  clear hB
  obtain ⟨⟨⟨v0_0, p0_0⟩, f0_0⟩, ⟨⟨v0_1, p0_1⟩, f0_1⟩, hk1, g0⟩ := st2 hk0 2 (by rw [hs1]; omega) (.string ⟨#[65, 49, 50, 56, 71, 67, 77]⟩) (.bool false)
  obtain ⟨cs2, hcn0⟩ : ∃ cs2, cs2 = ((cs1.setIfInBounds 2 (.string ⟨#[65, 49, 50, 56, 71, 67, 77]⟩)).setIfInBounds 3 (.bool false)) := ⟨_, rfl⟩
  obtain ⟨z0, hz0⟩ : ∃ z0, z0 = ((w1.setCell ⟨b, 2, none⟩ (.string ⟨#[65, 49, 50, 56, 71, 67, 77]⟩)).setCell ⟨b, 3, none⟩ (.bool false)) := ⟨_, rfl⟩
  have hs2 : cs2.size = 12 := by rw [hcn0]; simp [hs1]
  simp only [Nat.reduceAdd] at p0_1 f0_1 hk1 g0
  rw [← hz0] at hk1 g0
  rw [← hcn0] at hk1
  have HC0 := Lib.hid hcn0
  clear hcn0
  have HBn := Lib.hid hk1
  have HG := Lib.hid (g0)
  have HDm := Lib.hid (show Below w.heap.size w z0 from HDn.out.grown HG.out HDn.out.size (by intro j hj; cases hj; rw [HE.out]; exact Nat.le_refl _))
  clear HB HD hk0 hk1 g0 HDn HG
  go_wp2_with fail
  rw [← hz0]
  clear hz0 p0_0 f0_0 p0_1 f0_1
  have HC_1 := HC0
  clear HC0
  have HB := HBn
  have HD := HDm
  clear HBn HDm
  refine (NewContentEncryptionAlgorithm_calls _ _).mono ?_
  rintro e w1 ⟨rfl, hB⟩
  have hk0 := HB.out.below hB HB.out.lt
  have HDn := Lib.hid (below_then HD.out hB)
  clear hB
  obtain ⟨⟨⟨v0_0, p0_0⟩, f0_0⟩, ⟨⟨v0_1, p0_1⟩, f0_1⟩, hk1, g0⟩ := st2 hk0 4 (by rw [hs2]; omega) (.string ⟨#[65, 49, 57, 50, 67, 66, 67, 45, 72, 83, 51, 56, 52]⟩) (.bool false)
  obtain ⟨cs3, hcn0⟩ : ∃ cs3, cs3 = ((cs2.setIfInBounds 4 (.string ⟨#[65, 49, 57, 50, 67, 66, 67, 45, 72, 83, 51, 56, 52]⟩)).setIfInBounds 5 (.bool false)) := ⟨_, rfl⟩
  obtain ⟨z0, hz0⟩ : ∃ z0, z0 = ((w1.setCell ⟨b, 4, none⟩ (.string ⟨#[65, 49, 57, 50, 67, 66, 67, 45, 72, 83, 51, 56, 52]⟩)).setCell ⟨b, 5, none⟩ (.bool false)) := ⟨_, rfl⟩
  have hs3 : cs3.size = 12 := by rw [hcn0]; simp [hs2]
  simp only [Nat.reduceAdd] at p0_1 f0_1 hk1 g0
  rw [← hz0] at hk1 g0
  rw [← hcn0] at hk1
  have HC0 := Lib.hid hcn0
  clear hcn0
  have HBn := Lib.hid hk1
  have HG := Lib.hid (g0)
  have HDm := Lib.hid (show Below w.heap.size w z0 from HDn.out.grown HG.out HDn.out.size (by intro j hj; cases hj; rw [HE.out]; exact Nat.le_refl _))
  clear HB HD hk0 hk1 g0 HDn HG
  go_wp2_with fail
  rw [← hz0]
  clear hz0 p0_0 f0_0 p0_1 f0_1
  have HC_2 := HC0
  clear HC0
  have HB := HBn
  have HD := HDm
  clear HBn HDm
  refine (NewContentEncryptionAlgorithm_calls _ _).mono ?_
  rintro e w1 ⟨rfl, hB⟩
  have hk0 := HB.out.below hB HB.out.lt
  have HDn := Lib.hid (below_then HD.out hB)
  clear hB
  obtain ⟨⟨⟨v0_0, p0_0⟩, f0_0⟩, ⟨⟨v0_1, p0_1⟩, f0_1⟩, hk1, g0⟩ := st2 hk0 6 (by rw [hs3]; omega) (.string ⟨#[65, 49, 57, 50, 71, 67, 77]⟩) (.bool false)
  obtain ⟨cs4, hcn0⟩ : ∃ cs4, cs4 = ((cs3.setIfInBounds 6 (.string ⟨#[65, 49, 57, 50, 71, 67, 77]⟩)).setIfInBounds 7 (.bool false)) := ⟨_, rfl⟩
  obtain ⟨z0, hz0⟩ : ∃ z0, z0 = ((w1.setCell ⟨b, 6, none⟩ (.string ⟨#[65, 49, 57, 50, 71, 67, 77]⟩)).setCell ⟨b, 7, none⟩ (.bool false)) := ⟨_, rfl⟩
  have hs4 : cs4.size = 12 := by rw [hcn0]; simp [hs3]
  simp only [Nat.reduceAdd] at p0_1 f0_1 hk1 g0
  rw [← hz0] at hk1 g0
  rw [← hcn0] at hk1
  have HC0 := Lib.hid hcn0
  clear hcn0
  have HBn := Lib.hid hk1
  have HG := Lib.hid (g0)
  have HDm := Lib.hid (show Below w.heap.size w z0 from HDn.out.grown HG.out HDn.out.size (by intro j hj; cases hj; rw [HE.out]; exact Nat.le_refl _))
  clear HB HD hk0 hk1 g0 HDn HG
  go_wp2_with fail
  rw [← hz0]
  clear hz0 p0_0 f0_0 p0_1 f0_1
  have HC_3 := HC0
  clear HC0
  have HB := HBn
  have HD := HDm
  clear HBn HDm
  refine (NewContentEncryptionAlgorithm_calls _ _).mono ?_
  rintro e w1 ⟨rfl, hB⟩
  have hk0 := HB.out.below hB HB.out.lt
  have HDn := Lib.hid (below_then HD.out hB)
  clear hB
  obtain ⟨⟨⟨v0_0, p0_0⟩, f0_0⟩, ⟨⟨v0_1, p0_1⟩, f0_1⟩, hk1, g0⟩ := st2 hk0 8 (by rw [hs4]; omega) (.string ⟨#[65, 50, 53, 54, 67, 66, 67, 45, 72, 83, 53, 49, 50]⟩) (.bool false)
  obtain ⟨cs5, hcn0⟩ : ∃ cs5, cs5 = ((cs4.setIfInBounds 8 (.string ⟨#[65, 50, 53, 54, 67, 66, 67, 45, 72, 83, 53, 49, 50]⟩)).setIfInBounds 9 (.bool false)) := ⟨_, rfl⟩
  obtain ⟨z0, hz0⟩ : ∃ z0, z0 = ((w1.setCell ⟨b, 8, none⟩ (.string ⟨#[65, 50, 53, 54, 67, 66, 67, 45, 72, 83, 53, 49, 50]⟩)).setCell ⟨b, 9, none⟩ (.bool false)) := ⟨_, rfl⟩
  have hs5 : cs5.size = 12 := by rw [hcn0]; simp [hs4]
  simp only [Nat.reduceAdd] at p0_1 f0_1 hk1 g0
  rw [← hz0] at hk1 g0
  rw [← hcn0] at hk1
  have HC0 := Lib.hid hcn0
  clear hcn0
  have HBn := Lib.hid hk1
  have HG := Lib.hid (g0)
  have HDm := Lib.hid (show Below w.heap.size w z0 from HDn.out.grown HG.out HDn.out.size (by intro j hj; cases hj; rw [HE.out]; exact Nat.le_refl _))
  clear HB HD hk0 hk1 g0 HDn HG
  go_wp2_with fail
  rw [← hz0]
  clear hz0 p0_0 f0_0 p0_1 f0_1
  have HC_4 := HC0
  clear HC0
  have HB := HBn
  have HD := HDm
  clear HBn HDm
  refine (NewContentEncryptionAlgorithm_calls _ _).mono ?_
  rintro e w1 ⟨rfl, hB⟩
  have hk0 := HB.out.below hB HB.out.lt
  have HDn := Lib.hid (below_then HD.out hB)
  clear hB
  obtain ⟨⟨⟨v0_0, p0_0⟩, f0_0⟩, ⟨⟨v0_1, p0_1⟩, f0_1⟩, hk1, g0⟩ := st2 hk0 10 (by rw [hs5]; omega) (.string ⟨#[65, 50, 53, 54, 71, 67, 77]⟩) (.bool false)
  obtain ⟨cs6, hcn0⟩ : ∃ cs6, cs6 = ((cs5.setIfInBounds 10 (.string ⟨#[65, 50, 53, 54, 71, 67, 77]⟩)).setIfInBounds 11 (.bool false)) := ⟨_, rfl⟩
  obtain ⟨z0, hz0⟩ : ∃ z0, z0 = ((w1.setCell ⟨b, 10, none⟩ (.string ⟨#[65, 50, 53, 54, 71, 67, 77]⟩)).setCell ⟨b, 11, none⟩ (.bool false)) := ⟨_, rfl⟩
  have hs6 : cs6.size = 12 := by rw [hcn0]; simp [hs5]
  simp only [Nat.reduceAdd] at p0_1 f0_1 hk1 g0
  rw [← hz0] at hk1 g0
  rw [← hcn0] at hk1
  have HC0 := Lib.hid hcn0
  clear hcn0
  have HBn := Lib.hid hk1
  have HG := Lib.hid (g0)
  have HDm := Lib.hid (show Below w.heap.size w z0 from HDn.out.grown HG.out HDn.out.size (by intro j hj; cases hj; rw [HE.out]; exact Nat.le_refl _))
  clear HB HD hk0 hk1 g0 HDn HG
  go_wp2_with fail
  rw [← hz0]
  clear hz0 p0_0 f0_0 p0_1 f0_1
  have HC_5 := HC0
  clear HC0
  have HB := HBn
  have HD := HDm
  clear HBn HDm
  have hfin : cs6 = cellsContentEncryption := by
    rw [HC_5.out, HC_4.out, HC_3.out, HC_2.out, HC_1.out, HC_0.out, HC.out]; rfl
  have HB' := HB.out
  rw [hfin] at HB'
  go_ret
  exact ⟨rfl, HE.out ▸ HD.out, HB'⟩
def tabKeyEncryption : List (ByteArray × Bool × Bool) := [(⟨#[65, 49, 50, 56, 71, 67, 77, 75, 87]⟩, false, true), (⟨#[65, 49, 50, 56, 75, 87]⟩, false, true), (⟨#[65, 49, 57, 50, 71, 67, 77, 75, 87]⟩, false, true), (⟨#[65, 49, 57, 50, 75, 87]⟩, false, true), (⟨#[65, 50, 53, 54, 71, 67, 77, 75, 87]⟩, false, true), (⟨#[65, 50, 53, 54, 75, 87]⟩, false, true), (⟨#[100, 105, 114]⟩, false, true), (⟨#[69, 67, 68, 72, 45, 69, 83]⟩, false, false), (⟨#[69, 67, 68, 72, 45, 69, 83, 43, 65, 49, 50, 56, 75, 87]⟩, false, false), (⟨#[69, 67, 68, 72, 45, 69, 83, 43, 65, 49, 57, 50, 75, 87]⟩, false, false), (⟨#[69, 67, 68, 72, 45, 69, 83, 43, 65, 50, 53, 54, 75, 87]⟩, false, false), (⟨#[80, 66, 69, 83, 50, 45, 72, 83, 50, 53, 54, 43, 65, 49, 50, 56, 75, 87]⟩, false, true), (⟨#[80, 66, 69, 83, 50, 45, 72, 83, 51, 56, 52, 43, 65, 49, 57, 50, 75, 87]⟩, false, true), (⟨#[80, 66, 69, 83, 50, 45, 72, 83, 53, 49, 50, 43, 65, 50, 53, 54, 75, 87]⟩, false, true), (⟨#[82, 83, 65, 49, 95, 53]⟩, true, false), (⟨#[82, 83, 65, 45, 79, 65, 69, 80]⟩, false, false), (⟨#[82, 83, 65, 45, 79, 65, 69, 80, 45, 50, 53, 54]⟩, false, false), (⟨#[82, 83, 65, 45, 79, 65, 69, 80, 45, 51, 56, 52]⟩, false, false), (⟨#[82, 83, 65, 45, 79, 65, 69, 80, 45, 53, 49, 50]⟩, false, false)]
def cellsKeyEncryption : Array Value := #[.string ⟨#[65, 49, 50, 56, 71, 67, 77, 75, 87]⟩, .bool false, .bool true, .string ⟨#[65, 49, 50, 56, 75, 87]⟩, .bool false, .bool true, .string ⟨#[65, 49, 57, 50, 71, 67, 77, 75, 87]⟩, .bool false, .bool true, .string ⟨#[65, 49, 57, 50, 75, 87]⟩, .bool false, .bool true, .string ⟨#[65, 50, 53, 54, 71, 67, 77, 75, 87]⟩, .bool false, .bool true, .string ⟨#[65, 50, 53, 54, 75, 87]⟩, .bool false, .bool true, .string ⟨#[100, 105, 114]⟩, .bool false, .bool true, .string ⟨#[69, 67, 68, 72, 45, 69, 83]⟩, .bool false, .bool false, .string ⟨#[69, 67, 68, 72, 45, 69, 83, 43, 65, 49, 50, 56, 75, 87]⟩, .bool false, .bool false, .string ⟨#[69, 67, 68, 72, 45, 69, 83, 43, 65, 49, 57, 50, 75, 87]⟩, .bool false, .bool false, .string ⟨#[69, 67, 68, 72, 45, 69, 83, 43, 65, 50, 53, 54, 75, 87]⟩, .bool false, .bool false, .string ⟨#[80, 66, 69, 83, 50, 45, 72, 83, 50, 53, 54, 43, 65, 49, 50, 56, 75, 87]⟩, .bool false, .bool true, .string ⟨#[80, 66, 69, 83, 50, 45, 72, 83, 51, 56, 52, 43, 65, 49, 57, 50, 75, 87]⟩, .bool false, .bool true, .string ⟨#[80, 66, 69, 83, 50, 45, 72, 83, 53, 49, 50, 43, 65, 50, 53, 54, 75, 87]⟩, .bool false, .bool true, .string ⟨#[82, 83, 65, 49, 95, 53]⟩, .bool true, .bool false, .string ⟨#[82, 83, 65, 45, 79, 65, 69, 80]⟩, .bool false, .bool false, .string ⟨#[82, 83, 65, 45, 79, 65, 69, 80, 45, 50, 53, 54]⟩, .bool false, .bool false, .string ⟨#[82, 83, 65, 45, 79, 65, 69, 80, 45, 51, 56, 52]⟩, .bool false, .bool false, .string ⟨#[82, 83, 65, 45, 79, 65, 69, 80, 45, 53, 49, 50]⟩, .bool false, .bool false]
def zeroKeyEncryption : Array Value := #[.string ⟨#[]⟩, .bool false, .bool false, .string ⟨#[]⟩, .bool false, .bool false, .string ⟨#[]⟩, .bool false, .bool false, .string ⟨#[]⟩, .bool false, .bool false, .string ⟨#[]⟩, .bool false, .bool false, .string ⟨#[]⟩, .bool false, .bool false, .string ⟨#[]⟩, .bool false, .bool false, .string ⟨#[]⟩, .bool false, .bool false, .string ⟨#[]⟩, .bool false, .bool false, .string ⟨#[]⟩, .bool false, .bool false, .string ⟨#[]⟩, .bool false, .bool false, .string ⟨#[]⟩, .bool false, .bool false, .string ⟨#[]⟩, .bool false, .bool false, .string ⟨#[]⟩, .bool false, .bool false, .string ⟨#[]⟩, .bool false, .bool false, .string ⟨#[]⟩, .bool false, .bool false, .string ⟨#[]⟩, .bool false, .bool false, .string ⟨#[]⟩, .bool false, .bool false, .string ⟨#[]⟩, .bool false, .bool false]
theorem mkKeyEncryption (W : World) : Sem.run Tryd.prog (Instr.makeSlice 179 (.int .i64 19) (.int .i64 19)) W = .ok (.slice (some ⟨W.heap.size, 0, none⟩) 19 19) (W.alloc (.cells zeroKeyEncryption 157)) := by kernel_rfl
set_option maxRecDepth 100000 in
set_option maxHeartbeats 4000000 in
theorem builtinKeyEncryptionAlgorithms_calls (w : World) : Calls Tryd.prog 78 #[] w fun e w' => e = .returned (.slice (some ⟨w.heap.size, 0, none⟩) 19 19) ∧ Below w.heap.size w w' ∧ Blk w' w.heap.size 157 cellsKeyEncryption := by
  have hmk := mkKeyEncryption w
  obtain ⟨b, hbe⟩ : ∃ b, b = w.heap.size := ⟨_, rfl⟩
  obtain ⟨cs0, hcs0⟩ : ∃ cs0, cs0 = zeroKeyEncryption := ⟨_, rfl⟩
  have hs0 : cs0.size = 57 := by rw [hcs0]; rfl
  rw [← hcs0] at hmk
  obtain ⟨y0, hy0⟩ : ∃ y0, y0 = w.alloc (.cells cs0 157) := ⟨_, rfl⟩
  rw [← hy0, ← hbe] at hmk
  have HB := Lib.hid (show Blk y0 b 157 cs0 by rw [hy0, hbe]; exact Blk.new w _ _)
  have HD := Lib.hid (show Below w.heap.size w y0 by rw [hy0]; exact below_alloc' (Below.refl w.heap.size w) _)
  have HC := Lib.hid hcs0
  have HE := Lib.hid hbe
  rw [← hbe]
  clear hy0 hcs0 hbe
  have hk0 := HB.out
  have HDn := HD
  obtain ⟨⟨⟨v0_0, p0_0⟩, f0_0⟩, ⟨⟨v0_1, p0_1⟩, f0_1⟩, ⟨⟨v0_2, p0_2⟩, f0_2⟩, hk1, g0⟩ := st3 hk0 0 (by rw [hs0]; omega) (.string ⟨#[65, 49, 50, 56, 71, 67, 77, 75, 87]⟩) (.bool false) (.bool true)
  obtain ⟨cs1, hcn0⟩ : ∃ cs1, cs1 = (((cs0.setIfInBounds 0 (.string ⟨#[65, 49, 50, 56, 71, 67, 77, 75, 87]⟩)).setIfInBounds 1 (.bool false)).setIfInBounds 2 (.bool true)) := ⟨_, rfl⟩
  obtain ⟨z0, hz0⟩ : ∃ z0, z0 = (((y0.setCell ⟨b, 0, none⟩ (.string ⟨#[65, 49, 50, 56, 71, 67, 77, 75, 87]⟩)).setCell ⟨b, 1, none⟩ (.bool false)).setCell ⟨b, 2, none⟩ (.bool true)) := ⟨_, rfl⟩
  have hs1 : cs1.size = 57 := by rw [hcn0]; simp [hs0]
  simp only [Nat.reduceAdd] at p0_1 f0_1 p0_2 f0_2 hk1 g0
  rw [← hz0] at hk1 g0
  rw [← hcn0] at hk1
  have HC0 := Lib.hid hcn0
  clear hcn0
  obtain ⟨⟨⟨v1_0, p1_0⟩, f1_0⟩, ⟨⟨v1_1, p1_1⟩, f1_1⟩, ⟨⟨v1_2, p1_2⟩, f1_2⟩, hk2, g1⟩ := st3 hk1 3 (by rw [hs1]; omega) (.string ⟨#[65, 49, 50, 56, 75, 87]⟩) (.bool false) (.bool true)
  obtain ⟨cs2, hcn1⟩ : ∃ cs2, cs2 = (((cs1.setIfInBounds 3 (.string ⟨#[65, 49, 50, 56, 75, 87]⟩)).setIfInBounds 4 (.bool false)).setIfInBounds 5 (.bool true)) := ⟨_, rfl⟩
  obtain ⟨z1, hz1⟩ : ∃ z1, z1 = (((z0.setCell ⟨b, 3, none⟩ (.string ⟨#[65, 49, 50, 56, 75, 87]⟩)).setCell ⟨b, 4, none⟩ (.bool false)).setCell ⟨b, 5, none⟩ (.bool true)) := ⟨_, rfl⟩
  have hs2 : cs2.size = 57 := by rw [hcn1]; simp [hs1]
  simp only [Nat.reduceAdd] at p1_1 f1_1 p1_2 f1_2 hk2 g1
  rw [← hz1] at hk2 g1
  rw [← hcn1] at hk2
  have HC1 := Lib.hid hcn1
  clear hcn1
  obtain ⟨⟨⟨v2_0, p2_0⟩, f2_0⟩, ⟨⟨v2_1, p2_1⟩, f2_1⟩, ⟨⟨v2_2, p2_2⟩, f2_2⟩, hk3, g2⟩ := st3 hk2 6 (by rw [hs2]; omega) (.string ⟨#[65, 49, 57, 50, 71, 67, 77, 75, 87]⟩) (.bool false) (.bool true)
  obtain ⟨cs3, hcn2⟩ : ∃ cs3, cs3 = (((cs2.setIfInBounds 6 (.string ⟨#[65, 49, 57, 50, 71, 67, 77, 75, 87]⟩)).setIfInBounds 7 (.bool false)).setIfInBounds 8 (.bool true)) := ⟨_, rfl⟩
  obtain ⟨z2, hz2⟩ : ∃ z2, z2 = (((z1.setCell ⟨b, 6, none⟩ (.string ⟨#[65, 49, 57, 50, 71, 67, 77, 75, 87]⟩)).setCell ⟨b, 7, none⟩ (.bool false)).setCell ⟨b, 8, none⟩ (.bool true)) := ⟨_, rfl⟩
  have hs3 : cs3.size = 57 := by rw [hcn2]; simp [hs2]
  simp only [Nat.reduceAdd] at p2_1 f2_1 p2_2 f2_2 hk3 g2
  rw [← hz2] at hk3 g2
  rw [← hcn2] at hk3
  have HC2 := Lib.hid hcn2
  clear hcn2
  obtain ⟨⟨⟨v3_0, p3_0⟩, f3_0⟩, ⟨⟨v3_1, p3_1⟩, f3_1⟩, ⟨⟨v3_2, p3_2⟩, f3_2⟩, hk4, g3⟩ := st3 hk3 9 (by rw [hs3]; omega) (.string ⟨#[65, 49, 57, 50, 75, 87]⟩) (.bool false) (.bool true)
  obtain ⟨cs4, hcn3⟩ : ∃ cs4, cs4 = (((cs3.setIfInBounds 9 (.string ⟨#[65, 49, 57, 50, 75, 87]⟩)).setIfInBounds 10 (.bool false)).setIfInBounds 11 (.bool true)) := ⟨_, rfl⟩
  obtain ⟨z3, hz3⟩ : ∃ z3, z3 = (((z2.setCell ⟨b, 9, none⟩ (.string ⟨#[65, 49, 57, 50, 75, 87]⟩)).setCell ⟨b, 10, none⟩ (.bool false)).setCell ⟨b, 11, none⟩ (.bool true)) := ⟨_, rfl⟩
  have hs4 : cs4.size = 57 := by rw [hcn3]; simp [hs3]
  simp only [Nat.reduceAdd] at p3_1 f3_1 p3_2 f3_2 hk4 g3
  rw [← hz3] at hk4 g3
  rw [← hcn3] at hk4
  have HC3 := Lib.hid hcn3
  clear hcn3
  obtain ⟨⟨⟨v4_0, p4_0⟩, f4_0⟩, ⟨⟨v4_1, p4_1⟩, f4_1⟩, ⟨⟨v4_2, p4_2⟩, f4_2⟩, hk5, g4⟩ := st3 hk4 12 (by rw [hs4]; omega) (.string ⟨#[65, 50, 53, 54, 71, 67, 77, 75, 87]⟩) (.bool false) (.bool true)
  obtain ⟨cs5, hcn4⟩ : ∃ cs5, cs5 = (((cs4.setIfInBounds 12 (.string ⟨#[65, 50, 53, 54, 71, 67, 77, 75, 87]⟩)).setIfInBounds 13 (.bool false)).setIfInBounds 14 (.bool true)) := ⟨_, rfl⟩
  obtain ⟨z4, hz4⟩ : ∃ z4, z4 = (((z3.setCell ⟨b, 12, none⟩ (.string ⟨#[65, 50, 53, 54, 71, 67, 77, 75, 87]⟩)).setCell ⟨b, 13, none⟩ (.bool false)).setCell ⟨b, 14, none⟩ (.bool true)) := ⟨_, rfl⟩
  have hs5 : cs5.size = 57 := by rw [hcn4]; simp [hs4]
  simp only [Nat.reduceAdd] at p4_1 f4_1 p4_2 f4_2 hk5 g4
  rw [← hz4] at hk5 g4
  rw [← hcn4] at hk5
  have HC4 := Lib.hid hcn4
  clear hcn4
  obtain ⟨⟨⟨v5_0, p5_0⟩, f5_0⟩, ⟨⟨v5_1, p5_1⟩, f5_1⟩, ⟨⟨v5_2, p5_2⟩, f5_2⟩, hk6, g5⟩ := st3 hk5 15 (by rw [hs5]; omega) (.string ⟨#[65, 50, 53, 54, 75, 87]⟩) (.bool false) (.bool true)
  obtain ⟨cs6, hcn5⟩ : ∃ cs6, cs6 = (((cs5.setIfInBounds 15 (.string ⟨#[65, 50, 53, 54, 75, 87]⟩)).setIfInBounds 16 (.bool false)).setIfInBounds 17 (.bool true)) := ⟨_, rfl⟩
  obtain ⟨z5, hz5⟩ : ∃ z5, z5 = (((z4.setCell ⟨b, 15, none⟩ (.string ⟨#[65, 50, 53, 54, 75, 87]⟩)).setCell ⟨b, 16, none⟩ (.bool false)).setCell ⟨b, 17, none⟩ (.bool true)) := ⟨_, rfl⟩
  have hs6 : cs6.size = 57 := by rw [hcn5]; simp [hs5]
  simp only [Nat.reduceAdd] at p5_1 f5_1 p5_2 f5_2 hk6 g5
  rw [← hz5] at hk6 g5
  rw [← hcn5] at hk6
  have HC5 := Lib.hid hcn5
  clear hcn5
  obtain ⟨⟨⟨v6_0, p6_0⟩, f6_0⟩, ⟨⟨v6_1, p6_1⟩, f6_1⟩, ⟨⟨v6_2, p6_2⟩, f6_2⟩, hk7, g6⟩ := st3 hk6 18 (by rw [hs6]; omega) (.string ⟨#[100, 105, 114]⟩) (.bool false) (.bool true)
  obtain ⟨cs7, hcn6⟩ : ∃ cs7, cs7 = (((cs6.setIfInBounds 18 (.string ⟨#[100, 105, 114]⟩)).setIfInBounds 19 (.bool false)).setIfInBounds 20 (.bool true)) := ⟨_, rfl⟩
  obtain ⟨z6, hz6⟩ : ∃ z6, z6 = (((z5.setCell ⟨b, 18, none⟩ (.string ⟨#[100, 105, 114]⟩)).setCell ⟨b, 19, none⟩ (.bool false)).setCell ⟨b, 20, none⟩ (.bool true)) := ⟨_, rfl⟩
  have hs7 : cs7.size = 57 := by rw [hcn6]; simp [hs6]
  simp only [Nat.reduceAdd] at p6_1 f6_1 p6_2 f6_2 hk7 g6
  rw [← hz6] at hk7 g6
  rw [← hcn6] at hk7
  have HC6 := Lib.hid hcn6
  clear hcn6
  have HBn := Lib.hid hk7
  have HG := Lib.hid (grown_trans (grown_trans (grown_trans (grown_trans (grown_trans (grown_trans (g0) g1) g2) g3) g4) g5) g6)
  have HDm := Lib.hid (show Below w.heap.size w z6 from HDn.out.grown HG.out HDn.out.size (by intro j hj; cases hj; rw [HE.out]; exact Nat.le_refl _))
  rw [hz5, hz4, hz3, hz2, hz1, hz0] at p6_0 f6_0
  rw [hz5, hz4, hz3, hz2, hz1, hz0] at p6_1 f6_1
  rw [hz5, hz4, hz3, hz2, hz1, hz0] at p6_2 f6_2
  rw [hz4, hz3, hz2, hz1, hz0] at p5_0 f5_0
  rw [hz4, hz3, hz2, hz1, hz0] at p5_1 f5_1
  rw [hz4, hz3, hz2, hz1, hz0] at p5_2 f5_2
  rw [hz3, hz2, hz1, hz0] at p4_0 f4_0
  rw [hz3, hz2, hz1, hz0] at p4_1 f4_1
  rw [hz3, hz2, hz1, hz0] at p4_2 f4_2
  rw [hz2, hz1, hz0] at p3_0 f3_0
  rw [hz2, hz1, hz0] at p3_1 f3_1
  rw [hz2, hz1, hz0] at p3_2 f3_2
  rw [hz1, hz0] at p2_0 f2_0
  rw [hz1, hz0] at p2_1 f2_1
  rw [hz1, hz0] at p2_2 f2_2
  rw [hz0] at p1_0 f1_0
  rw [hz0] at p1_1 f1_1
  rw [hz0] at p1_2 f1_2
  rw [hz5, hz4, hz3, hz2, hz1, hz0] at hz6
  clear HB HD hk0 hk1 hk2 hk3 hk4 hk5 hk6 hk7 g0 g1 g2 g3 g4 g5 g6 HDn HG
  go_enter Tryd.func78, Tryd.ntmps78
  go_wp2_with fail
  rw [← hz6]
  clear hz0 hz1 hz2 hz3 hz4 hz5 hz6 p0_0 f0_0 p0_1 f0_1 p0_2 f0_2 p1_0 f1_0 p1_1 f1_1 p1_2 f1_2 p2_0 f2_0 p2_1 f2_1 p2_2 f2_2 p3_0 f3_0 p3_1 f3_1 p3_2 f3_2 p4_0 f4_0 p4_1 f4_1 p4_2 f4_2 p5_0 f5_0 p5_1 f5_1 p5_2 f5_2 p6_0 f6_0 p6_1 f6_1 p6_2 f6_2
  have HC_0 := HC0
  clear HC0
  have HC_1 := HC1
  clear HC1
  have HC_2 := HC2
  clear HC2
  have HC_3 := HC3
  clear HC3
  have HC_4 := HC4
  clear HC4
  have HC_5 := HC5
  clear HC5
  have HC_6 := HC6
  clear HC6
  have HB := HBn
  have HD := HDm
  clear HBn HDm
  refine (NewKeyEncryptionAlgorithm_calls _ _).mono ?_
  rintro e w1 ⟨rfl, hB⟩
  have hk0 := HB.out.below hB HB.out.lt
  have HDn := Lib.hid (below_then HD.out hB)
  clear hB
  obtain ⟨⟨⟨v0_0, p0_0⟩, f0_0⟩, ⟨⟨v0_1, p0_1⟩, f0_1⟩, ⟨⟨v0_2, p0_2⟩, f0_2⟩, hk1, g0⟩ := st3 hk0 21 (by rw [hs7]; omega) (.string ⟨#[69, 67, 68, 72, 45, 69, 83]⟩) (.bool false) (.bool false)
  obtain ⟨cs8, hcn0⟩ : ∃ cs8, cs8 = (((cs7.setIfInBounds 21 (.string ⟨#[69, 67, 68, 72, 45, 69, 83]⟩)).setIfInBounds 22 (.bool false)).setIfInBounds 23 (.bool false)) := ⟨_, rfl⟩
  obtain ⟨z0, hz0⟩ : ∃ z0, z0 = (((w1.setCell ⟨b, 21, none⟩ (.string ⟨#[69, 67, 68, 72, 45, 69, 83]⟩)).setCell ⟨b, 22, none⟩ (.bool false)).setCell ⟨b, 23, none⟩ (.bool false)) := ⟨_, rfl⟩
  have hs8 : cs8.size = 57 := by rw [hcn0]; simp [hs7]
  simp only [Nat.reduceAdd] at p0_1 f0_1 p0_2 f0_2 hk1 g0
  rw [← hz0] at hk1 g0
  rw [← hcn0] at hk1
  have HC0 := Lib.hid hcn0
  clear hcn0
  have HBn := Lib.hid hk1
  have HG := Lib.hid (g0)
  have HDm := Lib.hid (show Below w.heap.size w z0 from HDn.out.grown HG.out HDn.out.size (by intro j hj; cases hj; rw [HE.out]; exact Nat.le_refl _))
  clear HB HD hk0 hk1 g0 HDn HG
  go_wp2_with fail
  rw [← hz0]
  clear hz0 p0_0 f0_0 p0_1 f0_1 p0_2 f0_2
  have HC_7 := HC0
  clear HC0
  have HB := HBn
  have HD := HDm
  clear HBn HDm
  refine (NewKeyEncryptionAlgorithm_calls _ _).mono ?_
  rintro e w1 ⟨rfl, hB⟩
  have hk0 := HB.out.below hB HB.out.lt
  have HDn := Lib.hid (below_then HD.out hB)
  clear hB
  obtain ⟨⟨⟨v0_0, p0_0⟩, f0_0⟩, ⟨⟨v0_1, p0_1⟩, f0_1⟩, ⟨⟨v0_2, p0_2⟩, f0_2⟩, hk1, g0⟩ := st3 hk0 24 (by rw [hs8]; omega) (.string ⟨#[69, 67, 68, 72, 45, 69, 83, 43, 65, 49, 50, 56, 75, 87]⟩) (.bool false) (.bool false)
  obtain ⟨cs9, hcn0⟩ : ∃ cs9, cs9 = (((cs8.setIfInBounds 24 (.string ⟨#[69, 67, 68, 72, 45, 69, 83, 43, 65, 49, 50, 56, 75, 87]⟩)).setIfInBounds 25 (.bool false)).setIfInBounds 26 (.bool false)) := ⟨_, rfl⟩
  obtain ⟨z0, hz0⟩ : ∃ z0, z0 = (((w1.setCell ⟨b, 24, none⟩ (.string ⟨#[69, 67, 68, 72, 45, 69, 83, 43, 65, 49, 50, 56, 75, 87]⟩)).setCell ⟨b, 25, none⟩ (.bool false)).setCell ⟨b, 26, none⟩ (.bool false)) := ⟨_, rfl⟩
  have hs9 : cs9.size = 57 := by rw [hcn0]; simp [hs8]
  simp only [Nat.reduceAdd] at p0_1 f0_1 p0_2 f0_2 hk1 g0
  rw [← hz0] at hk1 g0
  rw [← hcn0] at hk1
  have HC0 := Lib.hid hcn0
  clear hcn0
  have HBn := Lib.hid hk1
  have HG := Lib.hid (g0)
  have HDm := Lib.hid (show Below w.heap.size w z0 from HDn.out.grown HG.out HDn.out.size (by intro j hj; cases hj; rw [HE.out]; exact Nat.le_refl _))
  clear HB HD hk0 hk1 g0 HDn HG
  go_wp2_with fail
  rw [← hz0]
  clear hz0 p0_0 f0_0 p0_1 f0_1 p0_2 f0_2
  have HC_8 := HC0
  clear HC0
  have HB := HBn
  have HD := HDm
  clear HBn HDm
  refine (NewKeyEncryptionAlgorithm_calls _ _).mono ?_
  rintro e w1 ⟨rfl, hB⟩
  have hk0 := HB.out.below hB HB.out.lt
  have HDn := Lib.hid (below_then HD.out hB)
  clear hB
  obtain ⟨⟨⟨v0_0, p0_0⟩, f0_0⟩, ⟨⟨v0_1, p0_1⟩, f0_1⟩, ⟨⟨v0_2, p0_2⟩, f0_2⟩, hk1, g0⟩ := st3 hk0 27 (by rw [hs9]; omega) (.string ⟨#[69, 67, 68, 72, 45, 69, 83, 43, 65, 49, 57, 50, 75, 87]⟩) (.bool false) (.bool false)
  obtain ⟨cs10, hcn0⟩ : ∃ cs10, cs10 = (((cs9.setIfInBounds 27 (.string ⟨#[69, 67, 68, 72, 45, 69, 83, 43, 65, 49, 57, 50, 75, 87]⟩)).setIfInBounds 28 (.bool false)).setIfInBounds 29 (.bool false)) := ⟨_, rfl⟩
  obtain ⟨z0, hz0⟩ : ∃ z0, z0 = (((w1.setCell ⟨b, 27, none⟩ (.string ⟨#[69, 67, 68, 72, 45, 69, 83, 43, 65, 49, 57, 50, 75, 87]⟩)).setCell ⟨b, 28, none⟩ (.bool false)).setCell ⟨b, 29, none⟩ (.bool false)) := ⟨_, rfl⟩
  have hs10 : cs10.size = 57 := by rw [hcn0]; simp [hs9]
  simp only [Nat.reduceAdd] at p0_1 f0_1 p0_2 f0_2 hk1 g0
  rw [← hz0] at hk1 g0
  rw [← hcn0] at hk1
  have HC0 := Lib.hid hcn0
  clear hcn0
  have HBn := Lib.hid hk1
  have HG := Lib.hid (g0)
  have HDm := Lib.hid (show Below w.heap.size w z0 from HDn.out.grown HG.out HDn.out.size (by intro j hj; cases hj; rw [HE.out]; exact Nat.le_refl _))
  clear HB HD hk0 hk1 g0 HDn HG
  go_wp2_with fail
  rw [← hz0]
  clear hz0 p0_0 f0_0 p0_1 f0_1 p0_2 f0_2
  have HC_9 := HC0
  clear HC0
  have HB := HBn
  have HD := HDm
  clear HBn HDm
  refine (NewKeyEncryptionAlgorithm_calls _ _).mono ?_
  rintro e w1 ⟨rfl, hB⟩
  have hk0 := HB.out.below hB HB.out.lt
  have HDn := Lib.hid (below_then HD.out hB)
  clear hB
  obtain ⟨⟨⟨v0_0, p0_0⟩, f0_0⟩, ⟨⟨v0_1, p0_1⟩, f0_1⟩, ⟨⟨v0_2, p0_2⟩, f0_2⟩, hk1, g0⟩ := st3 hk0 30 (by rw [hs10]; omega) (.string ⟨#[69, 67, 68, 72, 45, 69, 83, 43, 65, 50, 53, 54, 75, 87]⟩) (.bool false) (.bool false)
  obtain ⟨cs11, hcn0⟩ : ∃ cs11, cs11 = (((cs10.setIfInBounds 30 (.string ⟨#[69, 67, 68, 72, 45, 69, 83, 43, 65, 50, 53, 54, 75, 87]⟩)).setIfInBounds 31 (.bool false)).setIfInBounds 32 (.bool false)) := ⟨_, rfl⟩
  obtain ⟨z0, hz0⟩ : ∃ z0, z0 = (((w1.setCell ⟨b, 30, none⟩ (.string ⟨#[69, 67, 68, 72, 45, 69, 83, 43, 65, 50, 53, 54, 75, 87]⟩)).setCell ⟨b, 31, none⟩ (.bool false)).setCell ⟨b, 32, none⟩ (.bool false)) := ⟨_, rfl⟩
  have hs11 : cs11.size = 57 := by rw [hcn0]; simp [hs10]
  simp only [Nat.reduceAdd] at p0_1 f0_1 p0_2 f0_2 hk1 g0
  rw [← hz0] at hk1 g0
  rw [← hcn0] at hk1
  have HC0 := Lib.hid hcn0
  clear hcn0
  obtain ⟨⟨⟨v1_0, p1_0⟩, f1_0⟩, ⟨⟨v1_1, p1_1⟩, f1_1⟩, ⟨⟨v1_2, p1_2⟩, f1_2⟩, hk2, g1⟩ := st3 hk1 33 (by rw [hs11]; omega) (.string ⟨#[80, 66, 69, 83, 50, 45, 72, 83, 50, 53, 54, 43, 65, 49, 50, 56, 75, 87]⟩) (.bool false) (.bool true)
  obtain ⟨cs12, hcn1⟩ : ∃ cs12, cs12 = (((cs11.setIfInBounds 33 (.string ⟨#[80, 66, 69, 83, 50, 45, 72, 83, 50, 53, 54, 43, 65, 49, 50, 56, 75, 87]⟩)).setIfInBounds 34 (.bool false)).setIfInBounds 35 (.bool true)) := ⟨_, rfl⟩
  obtain ⟨z1, hz1⟩ : ∃ z1, z1 = (((z0.setCell ⟨b, 33, none⟩ (.string ⟨#[80, 66, 69, 83, 50, 45, 72, 83, 50, 53, 54, 43, 65, 49, 50, 56, 75, 87]⟩)).setCell ⟨b, 34, none⟩ (.bool false)).setCell ⟨b, 35, none⟩ (.bool true)) := ⟨_, rfl⟩
  have hs12 : cs12.size = 57 := by rw [hcn1]; simp [hs11]
  simp only [Nat.reduceAdd] at p1_1 f1_1 p1_2 f1_2 hk2 g1
  rw [← hz1] at hk2 g1
  rw [← hcn1] at hk2
  have HC1 := Lib.hid hcn1
  clear hcn1
  obtain ⟨⟨⟨v2_0, p2_0⟩, f2_0⟩, ⟨⟨v2_1, p2_1⟩, f2_1⟩, ⟨⟨v2_2, p2_2⟩, f2_2⟩, hk3, g2⟩ := st3 hk2 36 (by rw [hs12]; omega) (.string ⟨#[80, 66, 69, 83, 50, 45, 72, 83, 51, 56, 52, 43, 65, 49, 57, 50, 75, 87]⟩) (.bool false) (.bool true)
  obtain ⟨cs13, hcn2⟩ : ∃ cs13, cs13 = (((cs12.setIfInBounds 36 (.string ⟨#[80, 66, 69, 83, 50, 45, 72, 83, 51, 56, 52, 43, 65, 49, 57, 50, 75, 87]⟩)).setIfInBounds 37 (.bool false)).setIfInBounds 38 (.bool true)) := ⟨_, rfl⟩
  obtain ⟨z2, hz2⟩ : ∃ z2, z2 = (((z1.setCell ⟨b, 36, none⟩ (.string ⟨#[80, 66, 69, 83, 50, 45, 72, 83, 51, 56, 52, 43, 65, 49, 57, 50, 75, 87]⟩)).setCell ⟨b, 37, none⟩ (.bool false)).setCell ⟨b, 38, none⟩ (.bool true)) := ⟨_, rfl⟩
  have hs13 : cs13.size = 57 := by rw [hcn2]; simp [hs12]
  simp only [Nat.reduceAdd] at p2_1 f2_1 p2_2 f2_2 hk3 g2
  rw [← hz2] at hk3 g2
  rw [← hcn2] at hk3
  have HC2 := Lib.hid hcn2
  clear hcn2
  obtain ⟨⟨⟨v3_0, p3_0⟩, f3_0⟩, ⟨⟨v3_1, p3_1⟩, f3_1⟩, ⟨⟨v3_2, p3_2⟩, f3_2⟩, hk4, g3⟩ := st3 hk3 39 (by rw [hs13]; omega) (.string ⟨#[80, 66, 69, 83, 50, 45, 72, 83, 53, 49, 50, 43, 65, 50, 53, 54, 75, 87]⟩) (.bool false) (.bool true)
  obtain ⟨cs14, hcn3⟩ : ∃ cs14, cs14 = (((cs13.setIfInBounds 39 (.string ⟨#[80, 66, 69, 83, 50, 45, 72, 83, 53, 49, 50, 43, 65, 50, 53, 54, 75, 87]⟩)).setIfInBounds 40 (.bool false)).setIfInBounds 41 (.bool true)) := ⟨_, rfl⟩
  obtain ⟨z3, hz3⟩ : ∃ z3, z3 = (((z2.setCell ⟨b, 39, none⟩ (.string ⟨#[80, 66, 69, 83, 50, 45, 72, 83, 53, 49, 50, 43, 65, 50, 53, 54, 75, 87]⟩)).setCell ⟨b, 40, none⟩ (.bool false)).setCell ⟨b, 41, none⟩ (.bool true)) := ⟨_, rfl⟩
  have hs14 : cs14.size = 57 := by rw [hcn3]; simp [hs13]
  simp only [Nat.reduceAdd] at p3_1 f3_1 p3_2 f3_2 hk4 g3
  rw [← hz3] at hk4 g3
  rw [← hcn3] at hk4
  have HC3 := Lib.hid hcn3
  clear hcn3
  obtain ⟨⟨⟨v4_0, p4_0⟩, f4_0⟩, ⟨⟨v4_1, p4_1⟩, f4_1⟩, ⟨⟨v4_2, p4_2⟩, f4_2⟩, hk5, g4⟩ := st3 hk4 42 (by rw [hs14]; omega) (.string ⟨#[82, 83, 65, 49, 95, 53]⟩) (.bool true) (.bool false)
  obtain ⟨cs15, hcn4⟩ : ∃ cs15, cs15 = (((cs14.setIfInBounds 42 (.string ⟨#[82, 83, 65, 49, 95, 53]⟩)).setIfInBounds 43 (.bool true)).setIfInBounds 44 (.bool false)) := ⟨_, rfl⟩
  obtain ⟨z4, hz4⟩ : ∃ z4, z4 = (((z3.setCell ⟨b, 42, none⟩ (.string ⟨#[82, 83, 65, 49, 95, 53]⟩)).setCell ⟨b, 43, none⟩ (.bool true)).setCell ⟨b, 44, none⟩ (.bool false)) := ⟨_, rfl⟩
  have hs15 : cs15.size = 57 := by rw [hcn4]; simp [hs14]
  simp only [Nat.reduceAdd] at p4_1 f4_1 p4_2 f4_2 hk5 g4
  rw [← hz4] at hk5 g4
  rw [← hcn4] at hk5
  have HC4 := Lib.hid hcn4
  clear hcn4
  have HBn := Lib.hid hk5
  have HG := Lib.hid (grown_trans (grown_trans (grown_trans (grown_trans (g0) g1) g2) g3) g4)
  have HDm := Lib.hid (show Below w.heap.size w z4 from HDn.out.grown HG.out HDn.out.size (by intro j hj; cases hj; rw [HE.out]; exact Nat.le_refl _))
  rw [hz3, hz2, hz1, hz0] at p4_0 f4_0
  rw [hz3, hz2, hz1, hz0] at p4_1 f4_1
  rw [hz3, hz2, hz1, hz0] at p4_2 f4_2
  rw [hz2, hz1, hz0] at p3_0 f3_0
  rw [hz2, hz1, hz0] at p3_1 f3_1
  rw [hz2, hz1, hz0] at p3_2 f3_2
  rw [hz1, hz0] at p2_0 f2_0
  rw [hz1, hz0] at p2_1 f2_1
  rw [hz1, hz0] at p2_2 f2_2
  rw [hz0] at p1_0 f1_0
  rw [hz0] at p1_1 f1_1
  rw [hz0] at p1_2 f1_2
  rw [hz3, hz2, hz1, hz0] at hz4
  clear HB HD hk0 hk1 hk2 hk3 hk4 hk5 g0 g1 g2 g3 g4 HDn HG
  go_wp2_with fail
  rw [← hz4]
  clear hz0 hz1 hz2 hz3 hz4 p0_0 f0_0 p0_1 f0_1 p0_2 f0_2 p1_0 f1_0 p1_1 f1_1 p1_2 f1_2 p2_0 f2_0 p2_1 f2_1 p2_2 f2_2 p3_0 f3_0 p3_1 f3_1 p3_2 f3_2 p4_0 f4_0 p4_1 f4_1 p4_2 f4_2
  have HC_10 := HC0
  clear HC0
  have HC_11 := HC1
  clear HC1
  have HC_12 := HC2
  clear HC2
  have HC_13 := HC3
  clear HC3
  have HC_14 := HC4
  clear HC4
  have HB := HBn
  have HD := HDm
  clear HBn HDm
  refine (NewKeyEncryptionAlgorithm_calls _ _).mono ?_
  rintro e w1 ⟨rfl, hB⟩
  have hk0 := HB.out.below hB HB.out.lt
  have HDn := Lib.hid (below_then HD.out hB)
  clear hB
  obtain ⟨⟨⟨v0_0, p0_0⟩, f0_0⟩, ⟨⟨v0_1, p0_1⟩, f0_1⟩, ⟨⟨v0_2, p0_2⟩, f0_2⟩, hk1, g0⟩ := st3 hk0 45 (by rw [hs15]; omega) (.string ⟨#[82, 83, 65, 45, 79, 65, 69, 80]⟩) (.bool false) (.bool false)
  obtain ⟨cs16, hcn0⟩ : ∃ cs16, cs16 = (((cs15.setIfInBounds 45 (.string ⟨#[82, 83, 65, 45, 79, 65, 69, 80]⟩)).setIfInBounds 46 (.bool false)).setIfInBounds 47 (.bool false)) := ⟨_, rfl⟩
  obtain ⟨z0, hz0⟩ : ∃ z0, z0 = (((w1.setCell ⟨b, 45, none⟩ (.string ⟨#[82, 83, 65, 45, 79, 65, 69, 80]⟩)).setCell ⟨b, 46, none⟩ (.bool false)).setCell ⟨b, 47, none⟩ (.bool false)) := ⟨_, rfl⟩
  have hs16 : cs16.size = 57 := by rw [hcn0]; simp [hs15]
  simp only [Nat.reduceAdd] at p0_1 f0_1 p0_2 f0_2 hk1 g0
  rw [← hz0] at hk1 g0
  rw [← hcn0] at hk1
  have HC0 := Lib.hid hcn0
  clear hcn0
  have HBn := Lib.hid hk1
  have HG := Lib.hid (g0)
  have HDm := Lib.hid (show Below w.heap.size w z0 from HDn.out.grown HG.out HDn.out.size (by intro j hj; cases hj; rw [HE.out]; exact Nat.le_refl _))
  clear HB HD hk0 hk1 g0 HDn HG
  go_wp2_with fail
  rw [← hz0]
  clear hz0 p0_0 f0_0 p0_1 f0_1 p0_2 f0_2
  have HC_15 := HC0
  clear HC0
  have HB := HBn
  have HD := HDm
  clear HBn HDm
  refine (NewKeyEncryptionAlgorithm_calls _ _).mono ?_
  rintro e w1 ⟨rfl, hB⟩
  have hk0 := HB.out.below hB HB.out.lt
  have HDn := Lib.hid (below_then HD.out hB)
  clear hB
  obtain ⟨⟨⟨v0_0, p0_0⟩, f0_0⟩, ⟨⟨v0_1, p0_1⟩, f0_1⟩, ⟨⟨v0_2, p0_2⟩, f0_2⟩, hk1, g0⟩ := st3 hk0 48 (by rw [hs16]; omega) (.string ⟨#[82, 83, 65, 45, 79, 65, 69, 80, 45, 50, 53, 54]⟩) (.bool false) (.bool false)
  obtain ⟨cs17, hcn0⟩ : ∃ cs17, cs17 = (((cs16.setIfInBounds 48 (.string ⟨#[82, 83, 65, 45, 79, 65, 69, 80, 45, 50, 53, 54]⟩)).setIfInBounds 49 (.bool false)).setIfInBounds 50 (.bool false)) := ⟨_, rfl⟩
  obtain ⟨z0, hz0⟩ : ∃ z0, z0 = (((w1.setCell ⟨b, 48, none⟩ (.string ⟨#[82, 83, 65, 45, 79, 65, 69, 80, 45, 50, 53, 54]⟩)).setCell ⟨b, 49, none⟩ (.bool false)).setCell ⟨b, 50, none⟩ (.bool false)) := ⟨_, rfl⟩
  have hs17 : cs17.size = 57 := by rw [hcn0]; simp [hs16]
  simp only [Nat.reduceAdd] at p0_1 f0_1 p0_2 f0_2 hk1 g0
  rw [← hz0] at hk1 g0
  rw [← hcn0] at hk1
  have HC0 := Lib.hid hcn0
  clear hcn0
  have HBn := Lib.hid hk1
  have HG := Lib.hid (g0)
  have HDm := Lib.hid (show Below w.heap.size w z0 from HDn.out.grown HG.out HDn.out.size (by intro j hj; cases hj; rw [HE.out]; exact Nat.le_refl _))
  clear HB HD hk0 hk1 g0 HDn HG
  go_wp2_with fail
  rw [← hz0]
  clear hz0 p0_0 f0_0 p0_1 f0_1 p0_2 f0_2
  have HC_16 := HC0
  clear HC0
  have HB := HBn
  have HD := HDm
  clear HBn HDm
  refine (NewKeyEncryptionAlgorithm_calls _ _).mono ?_
  rintro e w1 ⟨rfl, hB⟩
  have hk0 := HB.out.below hB HB.out.lt
  have HDn := Lib.hid (below_then HD.out hB)
  clear hB
  obtain ⟨⟨⟨v0_0, p0_0⟩, f0_0⟩, ⟨⟨v0_1, p0_1⟩, f0_1⟩, ⟨⟨v0_2, p0_2⟩, f0_2⟩, hk1, g0⟩ := st3 hk0 51 (by rw [hs17]; omega) (.string ⟨#[82, 83, 65, 45, 79, 65, 69, 80, 45, 51, 56, 52]⟩) (.bool false) (.bool false)
  obtain ⟨cs18, hcn0⟩ : ∃ cs18, cs18 = (((cs17.setIfInBounds 51 (.string ⟨#[82, 83, 65, 45, 79, 65, 69, 80, 45, 51, 56, 52]⟩)).setIfInBounds 52 (.bool false)).setIfInBounds 53 (.bool false)) := ⟨_, rfl⟩
  obtain ⟨z0, hz0⟩ : ∃ z0, z0 = (((w1.setCell ⟨b, 51, none⟩ (.string ⟨#[82, 83, 65, 45, 79, 65, 69, 80, 45, 51, 56, 52]⟩)).setCell ⟨b, 52, none⟩ (.bool false)).setCell ⟨b, 53, none⟩ (.bool false)) := ⟨_, rfl⟩
  have hs18 : cs18.size = 57 := by rw [hcn0]; simp [hs17]
  simp only [Nat.reduceAdd] at p0_1 f0_1 p0_2 f0_2 hk1 g0
  rw [← hz0] at hk1 g0
  rw [← hcn0] at hk1
  have HC0 := Lib.hid hcn0
  clear hcn0
  have HBn := Lib.hid hk1
  have HG := Lib.hid (g0)
  have HDm := Lib.hid (show Below w.heap.size w z0 from HDn.out.grown HG.out HDn.out.size (by intro j hj; cases hj; rw [HE.out]; exact Nat.le_refl _))
  clear HB HD hk0 hk1 g0 HDn HG
  go_wp2_with fail
  rw [← hz0]
  clear hz0 p0_0 f0_0 p0_1 f0_1 p0_2 f0_2
  have HC_17 := HC0
  clear HC0
  have HB := HBn
  have HD := HDm
  clear HBn HDm
  refine (NewKeyEncryptionAlgorithm_calls _ _).mono ?_
  rintro e w1 ⟨rfl, hB⟩
  have hk0 := HB.out.below hB HB.out.lt
  have HDn := Lib.hid (below_then HD.out hB)
  clear hB
  obtain ⟨⟨⟨v0_0, p0_0⟩, f0_0⟩, ⟨⟨v0_1, p0_1⟩, f0_1⟩, ⟨⟨v0_2, p0_2⟩, f0_2⟩, hk1, g0⟩ := st3 hk0 54 (by rw [hs18]; omega) (.string ⟨#[82, 83, 65, 45, 79, 65, 69, 80, 45, 53, 49, 50]⟩) (.bool false) (.bool false)
  obtain ⟨cs19, hcn0⟩ : ∃ cs19, cs19 = (((cs18.setIfInBounds 54 (.string ⟨#[82, 83, 65, 45, 79, 65, 69, 80, 45, 53, 49, 50]⟩)).setIfInBounds 55 (.bool false)).setIfInBounds 56 (.bool false)) := ⟨_, rfl⟩
  obtain ⟨z0, hz0⟩ : ∃ z0, z0 = (((w1.setCell ⟨b, 54, none⟩ (.string ⟨#[82, 83, 65, 45, 79, 65, 69, 80, 45, 53, 49, 50]⟩)).setCell ⟨b, 55, none⟩ (.bool false)).setCell ⟨b, 56, none⟩ (.bool false)) := ⟨_, rfl⟩
  have hs19 : cs19.size = 57 := by rw [hcn0]; simp [hs18]
  simp only [Nat.reduceAdd] at p0_1 f0_1 p0_2 f0_2 hk1 g0
  rw [← hz0] at hk1 g0
  rw [← hcn0] at hk1
  have HC0 := Lib.hid hcn0
  clear hcn0
  have HBn := Lib.hid hk1
  have HG := Lib.hid (g0)
  have HDm := Lib.hid (show Below w.heap.size w z0 from HDn.out.grown HG.out HDn.out.size (by intro j hj; cases hj; rw [HE.out]; exact Nat.le_refl _))
  clear HB HD hk0 hk1 g0 HDn HG
  go_wp2_with fail
  rw [← hz0]
  clear hz0 p0_0 f0_0 p0_1 f0_1 p0_2 f0_2
  have HC_18 := HC0
  clear HC0
  have HB := HBn
  have HD := HDm
  clear HBn HDm
  have hfin : cs19 = cellsKeyEncryption := by
    rw [HC_18.out, HC_17.out, HC_16.out, HC_15.out, HC_14.out, HC_13.out, HC_12.out, HC_11.out, HC_10.out, HC_9.out, HC_8.out, HC_7.out, HC_6.out, HC_5.out, HC_4.out, HC_3.out, HC_2.out, HC_1.out, HC_0.out, HC.out]; rfl
  have HB' := HB.out
  rw [hfin] at HB'
  go_ret
  exact ⟨rfl, HE.out ▸ HD.out, HB'⟩
def tabSignature : List (ByteArray × Bool × Bool) := [(⟨#[69, 83, 50, 53, 54]⟩, false, false), (⟨#[69, 83, 50, 53, 54, 75]⟩, false, false), (⟨#[69, 83, 51, 56, 52]⟩, false, false), (⟨#[69, 83, 53, 49, 50]⟩, false, false), (⟨#[69, 100, 68, 83, 65]⟩, true, false), (⟨#[69, 100, 50, 53, 53, 49, 57]⟩, false, false), (⟨#[72, 83, 50, 53, 54]⟩, false, true), (⟨#[72, 83, 51, 56, 52]⟩, false, true), (⟨#[72, 83, 53, 49, 50]⟩, false, true), (⟨#[110, 111, 110, 101]⟩, false, false), (⟨#[80, 83, 50, 53, 54]⟩, false, false), (⟨#[80, 83, 51, 56, 52]⟩, false, false), (⟨#[80, 83, 53, 49, 50]⟩, false, false), (⟨#[82, 83, 50, 53, 54]⟩, false, false), (⟨#[82, 83, 51, 56, 52]⟩, false, false), (⟨#[82, 83, 53, 49, 50]⟩, false, false)]
def cellsSignature : Array Value := #[.string ⟨#[69, 83, 50, 53, 54]⟩, .bool false, .bool false, .string ⟨#[69, 83, 50, 53, 54, 75]⟩, .bool false, .bool false, .string ⟨#[69, 83, 51, 56, 52]⟩, .bool false, .bool false, .string ⟨#[69, 83, 53, 49, 50]⟩, .bool false, .bool false, .string ⟨#[69, 100, 68, 83, 65]⟩, .bool true, .bool false, .string ⟨#[69, 100, 50, 53, 53, 49, 57]⟩, .bool false, .bool false, .string ⟨#[72, 83, 50, 53, 54]⟩, .bool false, .bool true, .string ⟨#[72, 83, 51, 56, 52]⟩, .bool false, .bool true, .string ⟨#[72, 83, 53, 49, 50]⟩, .bool false, .bool true, .string ⟨#[110, 111, 110, 101]⟩, .bool false, .bool false, .string ⟨#[80, 83, 50, 53, 54]⟩, .bool false, .bool false, .string ⟨#[80, 83, 51, 56, 52]⟩, .bool false, .bool false, .string ⟨#[80, 83, 53, 49, 50]⟩, .bool false, .bool false, .string ⟨#[82, 83, 50, 53, 54]⟩, .bool false, .bool false, .string ⟨#[82, 83, 51, 56, 52]⟩, .bool false, .bool false, .string ⟨#[82, 83, 53, 49, 50]⟩, .bool false, .bool false]
def zeroSignature : Array Value := #[.string ⟨#[]⟩, .bool false, .bool false, .string ⟨#[]⟩, .bool false, .bool false, .string ⟨#[]⟩, .bool false, .bool false, .string ⟨#[]⟩, .bool false, .bool false, .string ⟨#[]⟩, .bool false, .bool false, .string ⟨#[]⟩, .bool false, .bool false, .string ⟨#[]⟩, .bool false, .bool false, .string ⟨#[]⟩, .bool false, .bool false, .string ⟨#[]⟩, .bool false, .bool false, .string ⟨#[]⟩, .bool false, .bool false, .string ⟨#[]⟩, .bool false, .bool false, .string ⟨#[]⟩, .bool false, .bool false, .string ⟨#[]⟩, .bool false, .bool false, .string ⟨#[]⟩, .bool false, .bool false, .string ⟨#[]⟩, .bool false, .bool false, .string ⟨#[]⟩, .bool false, .bool false]
theorem mkSignature (W : World) : Sem.run Tryd.prog (Instr.makeSlice 181 (.int .i64 16) (.int .i64 16)) W = .ok (.slice (some ⟨W.heap.size, 0, none⟩) 16 16) (W.alloc (.cells zeroSignature 156)) := by kernel_rfl
set_option maxRecDepth 100000 in
set_option maxHeartbeats 4000000 in
theorem builtinSignatureAlgorithms_calls (w : World) : Calls Tryd.prog 79 #[] w fun e w' => e = .returned (.slice (some ⟨w.heap.size, 0, none⟩) 16 16) ∧ Below w.heap.size w w' ∧ Blk w' w.heap.size 156 cellsSignature := by
  have hmk := mkSignature w
  obtain ⟨b, hbe⟩ : ∃ b, b = w.heap.size := ⟨_, rfl⟩
  obtain ⟨cs0, hcs0⟩ : ∃ cs0, cs0 = zeroSignature := ⟨_, rfl⟩
  have hs0 : cs0.size = 48 := by rw [hcs0]; rfl
  rw [← hcs0] at hmk
  obtain ⟨y0, hy0⟩ : ∃ y0, y0 = w.alloc (.cells cs0 156) := ⟨_, rfl⟩
  rw [← hy0, ← hbe] at hmk
  have HB := Lib.hid (show Blk y0 b 156 cs0 by rw [hy0, hbe]; exact Blk.new w _ _)
  have HD := Lib.hid (show Below w.heap.size w y0 by rw [hy0]; exact below_alloc' (Below.refl w.heap.size w) _)
  have HC := Lib.hid hcs0
  have HE := Lib.hid hbe
  rw [← hbe]
  clear hy0 hcs0 hbe
  go_enter Tryd.func79, Tryd.ntmps79
  go_wp2_with fail
  refine (NewSignatureAlgorithm_calls _ _).mono ?_
  rintro e w1 ⟨rfl, hB⟩
  have hk0 := HB.out.below hB HB.out.lt
  have HDn := Lib.hid (below_then HD.out hB)
  clear hB
  obtain ⟨⟨⟨v0_0, p0_0⟩, f0_0⟩, ⟨⟨v0_1, p0_1⟩, f0_1⟩, ⟨⟨v0_2, p0_2⟩, f0_2⟩, hk1, g0⟩ := st3 hk0 0 (by rw [hs0]; omega) (.string ⟨#[69, 83, 50, 53, 54]⟩) (.bool false) (.bool false)
  obtain ⟨cs1, hcn0⟩ : ∃ cs1, cs1 = (((cs0.setIfInBounds 0 (.string ⟨#[69, 83, 50, 53, 54]⟩)).setIfInBounds 1 (.bool false)).setIfInBounds 2 (.bool false)) := ⟨_, rfl⟩
  obtain ⟨z0, hz0⟩ : ∃ z0, z0 = (((w1.setCell ⟨b, 0, none⟩ (.string ⟨#[69, 83, 50, 53, 54]⟩)).setCell ⟨b, 1, none⟩ (.bool false)).setCell ⟨b, 2, none⟩ (.bool false)) := ⟨_, rfl⟩
  have hs1 : cs1.size = 48 := by rw [hcn0]; simp [hs0]
  simp only [Nat.reduceAdd] at p0_1 f0_1 p0_2 f0_2 hk1 g0
  rw [← hz0] at hk1 g0
  rw [← hcn0] at hk1
  have HC0 := Lib.hid hcn0
  clear hcn0
  have HBn := Lib.hid hk1
  have HG := Lib.hid (g0)
  have HDm := Lib.hid (show Below w.heap.size w z0 from HDn.out.grown HG.out HDn.out.size (by intro j hj; cases hj; rw [HE.out]; exact Nat.le_refl _))
  clear HB HD hk0 hk1 g0 HDn HG
  go_wp2_with fail
  rw [← hz0]
  clear hz0 p0_0 f0_0 p0_1 f0_1 p0_2 f0_2
  have HC_0 := HC0
  clear HC0
  have HB := HBn
  have HD := HDm
  clear HBn HDm
  refine (NewSignatureAlgorithm_calls _ _).mono ?_
  rintro e w1 ⟨rfl, hB⟩
  have hk0 := HB.out.below hB HB.out.lt
  have HDn := Lib.hid (below_then HD.out hB)
  clear hB
  obtain ⟨⟨⟨v0_0, p0_0⟩, f0_0⟩, ⟨⟨v0_1, p0_1⟩, f0_1⟩, ⟨⟨v0_2, p0_2⟩, f0_2⟩, hk1, g0⟩ := st3 hk0 3 (by rw [hs1]; omega) (.string ⟨#[69, 83, 50, 53, 54, 75]⟩) (.bool false) (.bool false)
  obtain ⟨cs2, hcn0⟩ : ∃ cs2, cs2 = (((cs1.setIfInBounds 3 (.string ⟨#[69, 83, 50, 53, 54, 75]⟩)).setIfInBounds 4 (.bool false)).setIfInBounds 5 (.bool false)) := ⟨_, rfl⟩
  obtain ⟨z0, hz0⟩ : ∃ z0, z0 = (((w1.setCell ⟨b, 3, none⟩ (.string ⟨#[69, 83, 50, 53, 54, 75]⟩)).setCell ⟨b, 4, none⟩ (.bool false)).setCell ⟨b, 5, none⟩ (.bool false)) := ⟨_, rfl⟩
  have hs2 : cs2.size = 48 := by rw [hcn0]; simp [hs1]
  simp only [Nat.reduceAdd] at p0_1 f0_1 p0_2 f0_2 hk1 g0
  rw [← hz0] at hk1 g0
  rw [← hcn0] at hk1
  have HC0 := Lib.hid hcn0
  clear hcn0
  have HBn := Lib.hid hk1
  have HG := Lib.hid (g0)
  have HDm := Lib.hid (show Below w.heap.size w z0 from HDn.out.grown HG.out HDn.out.size (by intro j hj; cases hj; rw [HE.out]; exact Nat.le_refl _))
  clear HB HD hk0 hk1 g0 HDn HG
  go_wp2_with fail
  rw [← hz0]
  clear hz0 p0_0 f0_0 p0_1 f0_1 p0_2 f0_2
  have HC_1 := HC0
  clear HC0
  have HB := HBn
  have HD := HDm
  clear HBn HDm
  refine (NewSignatureAlgorithm_calls _ _).mono ?_
  rintro e w1 ⟨rfl, hB⟩
  have hk0 := HB.out.below hB HB.out.lt
  have HDn := Lib.hid (below_then HD.out hB)
  clear hB
  obtain ⟨⟨⟨v0_0, p0_0⟩, f0_0⟩, ⟨⟨v0_1, p0_1⟩, f0_1⟩, ⟨⟨v0_2, p0_2⟩, f0_2⟩, hk1, g0⟩ := st3 hk0 6 (by rw [hs2]; omega) (.string ⟨#[69, 83, 51, 56, 52]⟩) (.bool false) (.bool false)
  obtain ⟨cs3, hcn0⟩ : ∃ cs3, cs3 = (((cs2.setIfInBounds 6 (.string ⟨#[69, 83, 51, 56, 52]⟩)).setIfInBounds 7 (.bool false)).setIfInBounds 8 (.bool false)) := ⟨_, rfl⟩
  obtain ⟨z0, hz0⟩ : ∃ z0, z0 = (((w1.setCell ⟨b, 6, none⟩ (.string ⟨#[69, 83, 51, 56, 52]⟩)).setCell ⟨b, 7, none⟩ (.bool false)).setCell ⟨b, 8, none⟩ (.bool false)) := ⟨_, rfl⟩
  have hs3 : cs3.size = 48 := by rw [hcn0]; simp [hs2]
  simp only [Nat.reduceAdd] at p0_1 f0_1 p0_2 f0_2 hk1 g0
  rw [← hz0] at hk1 g0
  rw [← hcn0] at hk1
  have HC0 := Lib.hid hcn0
  clear hcn0
  have HBn := Lib.hid hk1
  have HG := Lib.hid (g0)
  have HDm := Lib.hid (show Below w.heap.size w z0 from HDn.out.grown HG.out HDn.out.size (by intro j hj; cases hj; rw [HE.out]; exact Nat.le_refl _))
  clear HB HD hk0 hk1 g0 HDn HG
  go_wp2_with fail
  rw [← hz0]
  clear hz0 p0_0 f0_0 p0_1 f0_1 p0_2 f0_2
  have HC_2 := HC0
  clear HC0
  have HB := HBn
  have HD := HDm
  clear HBn HDm
  refine (NewSignatureAlgorithm_calls _ _).mono ?_
  rintro e w1 ⟨rfl, hB⟩
  have hk0 := HB.out.below hB HB.out.lt
  have HDn := Lib.hid (below_then HD.out hB)
  clear hB
  obtain ⟨⟨⟨v0_0, p0_0⟩, f0_0⟩, ⟨⟨v0_1, p0_1⟩, f0_1⟩, ⟨⟨v0_2, p0_2⟩, f0_2⟩, hk1, g0⟩ := st3 hk0 9 (by rw [hs3]; omega) (.string ⟨#[69, 83, 53, 49, 50]⟩) (.bool false) (.bool false)
  obtain ⟨cs4, hcn0⟩ : ∃ cs4, cs4 = (((cs3.setIfInBounds 9 (.string ⟨#[69, 83, 53, 49, 50]⟩)).setIfInBounds 10 (.bool false)).setIfInBounds 11 (.bool false)) := ⟨_, rfl⟩
  obtain ⟨z0, hz0⟩ : ∃ z0, z0 = (((w1.setCell ⟨b, 9, none⟩ (.string ⟨#[69, 83, 53, 49, 50]⟩)).setCell ⟨b, 10, none⟩ (.bool false)).setCell ⟨b, 11, none⟩ (.bool false)) := ⟨_, rfl⟩
  have hs4 : cs4.size = 48 := by rw [hcn0]; simp [hs3]
  simp only [Nat.reduceAdd] at p0_1 f0_1 p0_2 f0_2 hk1 g0
  rw [← hz0] at hk1 g0
  rw [← hcn0] at hk1
  have HC0 := Lib.hid hcn0
  clear hcn0
  obtain ⟨⟨⟨v1_0, p1_0⟩, f1_0⟩, ⟨⟨v1_1, p1_1⟩, f1_1⟩, ⟨⟨v1_2, p1_2⟩, f1_2⟩, hk2, g1⟩ := st3 hk1 12 (by rw [hs4]; omega) (.string ⟨#[69, 100, 68, 83, 65]⟩) (.bool true) (.bool false)
  obtain ⟨cs5, hcn1⟩ : ∃ cs5, cs5 = (((cs4.setIfInBounds 12 (.string ⟨#[69, 100, 68, 83, 65]⟩)).setIfInBounds 13 (.bool true)).setIfInBounds 14 (.bool false)) := ⟨_, rfl⟩
  obtain ⟨z1, hz1⟩ : ∃ z1, z1 = (((z0.setCell ⟨b, 12, none⟩ (.string ⟨#[69, 100, 68, 83, 65]⟩)).setCell ⟨b, 13, none⟩ (.bool true)).setCell ⟨b, 14, none⟩ (.bool false)) := ⟨_, rfl⟩
  have hs5 : cs5.size = 48 := by rw [hcn1]; simp [hs4]
  simp only [Nat.reduceAdd] at p1_1 f1_1 p1_2 f1_2 hk2 g1
  rw [← hz1] at hk2 g1
  rw [← hcn1] at hk2
  have HC1 := Lib.hid hcn1
  clear hcn1
  have HBn := Lib.hid hk2
  have HG := Lib.hid (grown_trans (g0) g1)
  have HDm := Lib.hid (show Below w.heap.size w z1 from HDn.out.grown HG.out HDn.out.size (by intro j hj; cases hj; rw [HE.out]; exact Nat.le_refl _))
  rw [hz0] at p1_0 f1_0
  rw [hz0] at p1_1 f1_1
  rw [hz0] at p1_2 f1_2
  rw [hz0] at hz1
  clear HB HD hk0 hk1 hk2 g0 g1 HDn HG
  go_wp2_with fail
  rw [← hz1]
  clear hz0 hz1 p0_0 f0_0 p0_1 f0_1 p0_2 f0_2 p1_0 f1_0 p1_1 f1_1 p1_2 f1_2
  have HC_3 := HC0
  clear HC0
  have HC_4 := HC1
  clear HC1
  have HB := HBn
  have HD := HDm
  clear HBn HDm
  refine (NewSignatureAlgorithm_calls _ _).mono ?_
  rintro e w1 ⟨rfl, hB⟩
  have hk0 := HB.out.below hB HB.out.lt
  have HDn := Lib.hid (below_then HD.out hB)
  clear hB
  obtain ⟨⟨⟨v0_0, p0_0⟩, f0_0⟩, ⟨⟨v0_1, p0_1⟩, f0_1⟩, ⟨⟨v0_2, p0_2⟩, f0_2⟩, hk1, g0⟩ := st3 hk0 15 (by rw [hs5]; omega) (.string ⟨#[69, 100, 50, 53, 53, 49, 57]⟩) (.bool false) (.bool false)
  obtain ⟨cs6, hcn0⟩ : ∃ cs6, cs6 = (((cs5.setIfInBounds 15 (.string ⟨#[69, 100, 50, 53, 53, 49, 57]⟩)).setIfInBounds 16 (.bool false)).setIfInBounds 17 (.bool false)) := ⟨_, rfl⟩
  obtain ⟨z0, hz0⟩ : ∃ z0, z0 = (((w1.setCell ⟨b, 15, none⟩ (.string ⟨#[69, 100, 50, 53, 53, 49, 57]⟩)).setCell ⟨b, 16, none⟩ (.bool false)).setCell ⟨b, 17, none⟩ (.bool false)) := ⟨_, rfl⟩
  have hs6 : cs6.size = 48 := by rw [hcn0]; simp [hs5]
  simp only [Nat.reduceAdd] at p0_1 f0_1 p0_2 f0_2 hk1 g0
  rw [← hz0] at hk1 g0
  rw [← hcn0] at hk1
  have HC0 := Lib.hid hcn0
  clear hcn0
  obtain ⟨⟨⟨v1_0, p1_0⟩, f1_0⟩, ⟨⟨v1_1, p1_1⟩, f1_1⟩, ⟨⟨v1_2, p1_2⟩, f1_2⟩, hk2, g1⟩ := st3 hk1 18 (by rw [hs6]; omega) (.string ⟨#[72, 83, 50, 53, 54]⟩) (.bool false) (.bool true)
  obtain ⟨cs7, hcn1⟩ : ∃ cs7, cs7 = (((cs6.setIfInBounds 18 (.string ⟨#[72, 83, 50, 53, 54]⟩)).setIfInBounds 19 (.bool false)).setIfInBounds 20 (.bool true)) := ⟨_, rfl⟩
  obtain ⟨z1, hz1⟩ : ∃ z1, z1 = (((z0.setCell ⟨b, 18, none⟩ (.string ⟨#[72, 83, 50, 53, 54]⟩)).setCell ⟨b, 19, none⟩ (.bool false)).setCell ⟨b, 20, none⟩ (.bool true)) := ⟨_, rfl⟩
  have hs7 : cs7.size = 48 := by rw [hcn1]; simp [hs6]
  simp only [Nat.reduceAdd] at p1_1 f1_1 p1_2 f1_2 hk2 g1
  rw [← hz1] at hk2 g1
  rw [← hcn1] at hk2
  have HC1 := Lib.hid hcn1
  clear hcn1
  obtain ⟨⟨⟨v2_0, p2_0⟩, f2_0⟩, ⟨⟨v2_1, p2_1⟩, f2_1⟩, ⟨⟨v2_2, p2_2⟩, f2_2⟩, hk3, g2⟩ := st3 hk2 21 (by rw [hs7]; omega) (.string ⟨#[72, 83, 51, 56, 52]⟩) (.bool false) (.bool true)
  obtain ⟨cs8, hcn2⟩ : ∃ cs8, cs8 = (((cs7.setIfInBounds 21 (.string ⟨#[72, 83, 51, 56, 52]⟩)).setIfInBounds 22 (.bool false)).setIfInBounds 23 (.bool true)) := ⟨_, rfl⟩
  obtain ⟨z2, hz2⟩ : ∃ z2, z2 = (((z1.setCell ⟨b, 21, none⟩ (.string ⟨#[72, 83, 51, 56, 52]⟩)).setCell ⟨b, 22, none⟩ (.bool false)).setCell ⟨b, 23, none⟩ (.bool true)) := ⟨_, rfl⟩
  have hs8 : cs8.size = 48 := by rw [hcn2]; simp [hs7]
  simp only [Nat.reduceAdd] at p2_1 f2_1 p2_2 f2_2 hk3 g2
  rw [← hz2] at hk3 g2
  rw [← hcn2] at hk3
  have HC2 := Lib.hid hcn2
  clear hcn2
  obtain ⟨⟨⟨v3_0, p3_0⟩, f3_0⟩, ⟨⟨v3_1, p3_1⟩, f3_1⟩, ⟨⟨v3_2, p3_2⟩, f3_2⟩, hk4, g3⟩ := st3 hk3 24 (by rw [hs8]; omega) (.string ⟨#[72, 83, 53, 49, 50]⟩) (.bool false) (.bool true)
  obtain ⟨cs9, hcn3⟩ : ∃ cs9, cs9 = (((cs8.setIfInBounds 24 (.string ⟨#[72, 83, 53, 49, 50]⟩)).setIfInBounds 25 (.bool false)).setIfInBounds 26 (.bool true)) := ⟨_, rfl⟩
  obtain ⟨z3, hz3⟩ : ∃ z3, z3 = (((z2.setCell ⟨b, 24, none⟩ (.string ⟨#[72, 83, 53, 49, 50]⟩)).setCell ⟨b, 25, none⟩ (.bool false)).setCell ⟨b, 26, none⟩ (.bool true)) := ⟨_, rfl⟩
  have hs9 : cs9.size = 48 := by rw [hcn3]; simp [hs8]
  simp only [Nat.reduceAdd] at p3_1 f3_1 p3_2 f3_2 hk4 g3
  rw [← hz3] at hk4 g3
  rw [← hcn3] at hk4
  have HC3 := Lib.hid hcn3
  clear hcn3
  have HBn := Lib.hid hk4
  have HG := Lib.hid (grown_trans (grown_trans (grown_trans (g0) g1) g2) g3)
  have HDm := Lib.hid (show Below w.heap.size w z3 from HDn.out.grown HG.out HDn.out.size (by intro j hj; cases hj; rw [HE.out]; exact Nat.le_refl _))
  rw [hz2, hz1, hz0] at p3_0 f3_0
  rw [hz2, hz1, hz0] at p3_1 f3_1
  rw [hz2, hz1, hz0] at p3_2 f3_2
  rw [hz1, hz0] at p2_0 f2_0
  rw [hz1, hz0] at p2_1 f2_1
  rw [hz1, hz0] at p2_2 f2_2
  rw [hz0] at p1_0 f1_0
  rw [hz0] at p1_1 f1_1
  rw [hz0] at p1_2 f1_2
  rw [hz2, hz1, hz0] at hz3
  clear HB HD hk0 hk1 hk2 hk3 hk4 g0 g1 g2 g3 HDn HG
  go_wp2_with fail
  rw [← hz3]
  clear hz0 hz1 hz2 hz3 p0_0 f0_0 p0_1 f0_1 p0_2 f0_2 p1_0 f1_0 p1_1 f1_1 p1_2 f1_2 p2_0 f2_0 p2_1 f2_1 p2_2 f2_2 p3_0 f3_0 p3_1 f3_1 p3_2 f3_2
  have HC_5 := HC0
  clear HC0
  have HC_6 := HC1
  clear HC1
  have HC_7 := HC2
  clear HC2
  have HC_8 := HC3
  clear HC3
  have HB := HBn
  have HD := HDm
  clear HBn HDm
  refine (NewSignatureAlgorithm_calls _ _).mono ?_
  rintro e w1 ⟨rfl, hB⟩
  have hk0 := HB.out.below hB HB.out.lt
  have HDn := Lib.hid (below_then HD.out hB)
  clear hB
  obtain ⟨⟨⟨v0_0, p0_0⟩, f0_0⟩, ⟨⟨v0_1, p0_1⟩, f0_1⟩, ⟨⟨v0_2, p0_2⟩, f0_2⟩, hk1, g0⟩ := st3 hk0 27 (by rw [hs9]; omega) (.string ⟨#[110, 111, 110, 101]⟩) (.bool false) (.bool false)
  obtain ⟨cs10, hcn0⟩ : ∃ cs10, cs10 = (((cs9.setIfInBounds 27 (.string ⟨#[110, 111, 110, 101]⟩)).setIfInBounds 28 (.bool false)).setIfInBounds 29 (.bool false)) := ⟨_, rfl⟩
  obtain ⟨z0, hz0⟩ : ∃ z0, z0 = (((w1.setCell ⟨b, 27, none⟩ (.string ⟨#[110, 111, 110, 101]⟩)).setCell ⟨b, 28, none⟩ (.bool false)).setCell ⟨b, 29, none⟩ (.bool false)) := ⟨_, rfl⟩
  have hs10 : cs10.size = 48 := by rw [hcn0]; simp [hs9]
  simp only [Nat.reduceAdd] at p0_1 f0_1 p0_2 f0_2 hk1 g0
  rw [← hz0] at hk1 g0
  rw [← hcn0] at hk1
  have HC0 := Lib.hid hcn0
  clear hcn0
  have HBn := Lib.hid hk1
  have HG := Lib.hid (g0)
  have HDm := Lib.hid (show Below w.heap.size w z0 from HDn.out.grown HG.out HDn.out.size (by intro j hj; cases hj; rw [HE.out]; exact Nat.le_refl _))
  clear HB HD hk0 hk1 g0 HDn HG
  go_wp2_with fail
  rw [← hz0]
  clear hz0 p0_0 f0_0 p0_1 f0_1 p0_2 f0_2
  have HC_9 := HC0
  clear HC0
  have HB := HBn
  have HD := HDm
  clear HBn HDm
  refine (NewSignatureAlgorithm_calls _ _).mono ?_
  rintro e w1 ⟨rfl, hB⟩
  have hk0 := HB.out.below hB HB.out.lt
  have HDn := Lib.hid (below_then HD.out hB)
  clear hB
  obtain ⟨⟨⟨v0_0, p0_0⟩, f0_0⟩, ⟨⟨v0_1, p0_1⟩, f0_1⟩, ⟨⟨v0_2, p0_2⟩, f0_2⟩, hk1, g0⟩ := st3 hk0 30 (by rw [hs10]; omega) (.string ⟨#[80, 83, 50, 53, 54]⟩) (.bool false) (.bool false)
  obtain ⟨cs11, hcn0⟩ : ∃ cs11, cs11 = (((cs10.setIfInBounds 30 (.string ⟨#[80, 83, 50, 53, 54]⟩)).setIfInBounds 31 (.bool false)).setIfInBounds 32 (.bool false)) := ⟨_, rfl⟩
  obtain ⟨z0, hz0⟩ : ∃ z0, z0 = (((w1.setCell ⟨b, 30, none⟩ (.string ⟨#[80, 83, 50, 53, 54]⟩)).setCell ⟨b, 31, none⟩ (.bool false)).setCell ⟨b, 32, none⟩ (.bool false)) := ⟨_, rfl⟩
  have hs11 : cs11.size = 48 := by rw [hcn0]; simp [hs10]
  simp only [Nat.reduceAdd] at p0_1 f0_1 p0_2 f0_2 hk1 g0
  rw [← hz0] at hk1 g0
  rw [← hcn0] at hk1
  have HC0 := Lib.hid hcn0
  clear hcn0
  have HBn := Lib.hid hk1
  have HG := Lib.hid (g0)
  have HDm := Lib.hid (show Below w.heap.size w z0 from HDn.out.grown HG.out HDn.out.size (by intro j hj; cases hj; rw [HE.out]; exact Nat.le_refl _))
  clear HB HD hk0 hk1 g0 HDn HG
  go_wp2_with fail
  rw [← hz0]
  clear hz0 p0_0 f0_0 p0_1 f0_1 p0_2 f0_2
  have HC_10 := HC0
  clear HC0
  have HB := HBn
  have HD := HDm
  clear HBn HDm
  refine (NewSignatureAlgorithm_calls _ _).mono ?_
  rintro e w1 ⟨rfl, hB⟩
  have hk0 := HB.out.below hB HB.out.lt
  have HDn := Lib.hid (below_then HD.out hB)
  clear hB
  obtain ⟨⟨⟨v0_0, p0_0⟩, f0_0⟩, ⟨⟨v0_1, p0_1⟩, f0_1⟩, ⟨⟨v0_2, p0_2⟩, f0_2⟩, hk1, g0⟩ := st3 hk0 33 (by rw [hs11]; omega) (.string ⟨#[80, 83, 51, 56, 52]⟩) (.bool false) (.bool false)
  obtain ⟨cs12, hcn0⟩ : ∃ cs12, cs12 = (((cs11.setIfInBounds 33 (.string ⟨#[80, 83, 51, 56, 52]⟩)).setIfInBounds 34 (.bool false)).setIfInBounds 35 (.bool false)) := ⟨_, rfl⟩
  obtain ⟨z0, hz0⟩ : ∃ z0, z0 = (((w1.setCell ⟨b, 33, none⟩ (.string ⟨#[80, 83, 51, 56, 52]⟩)).setCell ⟨b, 34, none⟩ (.bool false)).setCell ⟨b, 35, none⟩ (.bool false)) := ⟨_, rfl⟩
  have hs12 : cs12.size = 48 := by rw [hcn0]; simp [hs11]
  simp only [Nat.reduceAdd] at p0_1 f0_1 p0_2 f0_2 hk1 g0
  rw [← hz0] at hk1 g0
  rw [← hcn0] at hk1
  have HC0 := Lib.hid hcn0
  clear hcn0
  have HBn := Lib.hid hk1
  have HG := Lib.hid (g0)
  have HDm := Lib.hid (show Below w.heap.size w z0 from HDn.out.grown HG.out HDn.out.size (by intro j hj; cases hj; rw [HE.out]; exact Nat.le_refl _))
  clear HB HD hk0 hk1 g0 HDn HG
  go_wp2_with fail
  rw [← hz0]
  clear hz0 p0_0 f0_0 p0_1 f0_1 p0_2 f0_2
  have HC_11 := HC0
  clear HC0
  have HB := HBn
  have HD := HDm
  clear HBn HDm
  refine (NewSignatureAlgorithm_calls _ _).mono ?_
  rintro e w1 ⟨rfl, hB⟩
  have hk0 := HB.out.below hB HB.out.lt
  have HDn := Lib.hid (below_then HD.out hB)
  clear hB
  obtain ⟨⟨⟨v0_0, p0_0⟩, f0_0⟩, ⟨⟨v0_1, p0_1⟩, f0_1⟩, ⟨⟨v0_2, p0_2⟩, f0_2⟩, hk1, g0⟩ := st3 hk0 36 (by rw [hs12]; omega) (.string ⟨#[80, 83, 53, 49, 50]⟩) (.bool false) (.bool false)
  obtain ⟨cs13, hcn0⟩ : ∃ cs13, cs13 = (((cs12.setIfInBounds 36 (.string ⟨#[80, 83, 53, 49, 50]⟩)).setIfInBounds 37 (.bool false)).setIfInBounds 38 (.bool false)) := ⟨_, rfl⟩
  obtain ⟨z0, hz0⟩ : ∃ z0, z0 = (((w1.setCell ⟨b, 36, none⟩ (.string ⟨#[80, 83, 53, 49, 50]⟩)).setCell ⟨b, 37, none⟩ (.bool false)).setCell ⟨b, 38, none⟩ (.bool false)) := ⟨_, rfl⟩
  have hs13 : cs13.size = 48 := by rw [hcn0]; simp [hs12]
  simp only [Nat.reduceAdd] at p0_1 f0_1 p0_2 f0_2 hk1 g0
  rw [← hz0] at hk1 g0
  rw [← hcn0] at hk1
  have HC0 := Lib.hid hcn0
  clear hcn0
  have HBn := Lib.hid hk1
  have HG := Lib.hid (g0)
  have HDm := Lib.hid (show Below w.heap.size w z0 from HDn.out.grown HG.out HDn.out.size (by intro j hj; cases hj; rw [HE.out]; exact Nat.le_refl _))
  clear HB HD hk0 hk1 g0 HDn HG
  go_wp2_with fail
  rw [← hz0]
  clear hz0 p0_0 f0_0 p0_1 f0_1 p0_2 f0_2
  have HC_12 := HC0
  clear HC0
  have HB := HBn
  have HD := HDm
  clear HBn HDm
  refine (NewSignatureAlgorithm_calls _ _).mono ?_
  rintro e w1 ⟨rfl, hB⟩
  have hk0 := HB.out.below hB HB.out.lt
  have HDn := Lib.hid (below_then HD.out hB)
  clear hB
  obtain ⟨⟨⟨v0_0, p0_0⟩, f0_0⟩, ⟨⟨v0_1, p0_1⟩, f0_1⟩, ⟨⟨v0_2, p0_2⟩, f0_2⟩, hk1, g0⟩ := st3 hk0 39 (by rw [hs13]; omega) (.string ⟨#[82, 83, 50, 53, 54]⟩) (.bool false) (.bool false)
  obtain ⟨cs14, hcn0⟩ : ∃ cs14, cs14 = (((cs13.setIfInBounds 39 (.string ⟨#[82, 83, 50, 53, 54]⟩)).setIfInBounds 40 (.bool false)).setIfInBounds 41 (.bool false)) := ⟨_, rfl⟩
  obtain ⟨z0, hz0⟩ : ∃ z0, z0 = (((w1.setCell ⟨b, 39, none⟩ (.string ⟨#[82, 83, 50, 53, 54]⟩)).setCell ⟨b, 40, none⟩ (.bool false)).setCell ⟨b, 41, none⟩ (.bool false)) := ⟨_, rfl⟩
  have hs14 : cs14.size = 48 := by rw [hcn0]; simp [hs13]
  simp only [Nat.reduceAdd] at p0_1 f0_1 p0_2 f0_2 hk1 g0
  rw [← hz0] at hk1 g0
  rw [← hcn0] at hk1
  have HC0 := Lib.hid hcn0
  clear hcn0
  have HBn := Lib.hid hk1
  have HG := Lib.hid (g0)
  have HDm := Lib.hid (show Below w.heap.size w z0 from HDn.out.grown HG.out HDn.out.size (by intro j hj; cases hj; rw [HE.out]; exact Nat.le_refl _))
  clear HB HD hk0 hk1 g0 HDn HG
  go_wp2_with fail
  rw [← hz0]
  clear hz0 p0_0 f0_0 p0_1 f0_1 p0_2 f0_2
  have HC_13 := HC0
  clear HC0
  have HB := HBn
  have HD := HDm
  clear HBn HDm
  refine (NewSignatureAlgorithm_calls _ _).mono ?_
  rintro e w1 ⟨rfl, hB⟩
  have hk0 := HB.out.below hB HB.out.lt
  have HDn := Lib.hid (below_then HD.out hB)
  clear hB
  obtain ⟨⟨⟨v0_0, p0_0⟩, f0_0⟩, ⟨⟨v0_1, p0_1⟩, f0_1⟩, ⟨⟨v0_2, p0_2⟩, f0_2⟩, hk1, g0⟩ := st3 hk0 42 (by rw [hs14]; omega) (.string ⟨#[82, 83, 51, 56, 52]⟩) (.bool false) (.bool false)
  obtain ⟨cs15, hcn0⟩ : ∃ cs15, cs15 = (((cs14.setIfInBounds 42 (.string ⟨#[82, 83, 51, 56, 52]⟩)).setIfInBounds 43 (.bool false)).setIfInBounds 44 (.bool false)) := ⟨_, rfl⟩
  obtain ⟨z0, hz0⟩ : ∃ z0, z0 = (((w1.setCell ⟨b, 42, none⟩ (.string ⟨#[82, 83, 51, 56, 52]⟩)).setCell ⟨b, 43, none⟩ (.bool false)).setCell ⟨b, 44, none⟩ (.bool false)) := ⟨_, rfl⟩
  have hs15 : cs15.size = 48 := by rw [hcn0]; simp [hs14]
  simp only [Nat.reduceAdd] at p0_1 f0_1 p0_2 f0_2 hk1 g0
  rw [← hz0] at hk1 g0
  rw [← hcn0] at hk1
  have HC0 := Lib.hid hcn0
  clear hcn0
  have HBn := Lib.hid hk1
  have HG := Lib.hid (g0)
  have HDm := Lib.hid (show Below w.heap.size w z0 from HDn.out.grown HG.out HDn.out.size (by intro j hj; cases hj; rw [HE.out]; exact Nat.le_refl _))
  clear HB HD hk0 hk1 g0 HDn HG
  go_wp2_with fail
  rw [← hz0]
  clear hz0 p0_0 f0_0 p0_1 f0_1 p0_2 f0_2
  have HC_14 := HC0
  clear HC0
  have HB := HBn
  have HD := HDm
  clear HBn HDm
  refine (NewSignatureAlgorithm_calls _ _).mono ?_
  rintro e w1 ⟨rfl, hB⟩
  have hk0 := HB.out.below hB HB.out.lt
  have HDn := Lib.hid (below_then HD.out hB)
  clear hB
  obtain ⟨⟨⟨v0_0, p0_0⟩, f0_0⟩, ⟨⟨v0_1, p0_1⟩, f0_1⟩, ⟨⟨v0_2, p0_2⟩, f0_2⟩, hk1, g0⟩ := st3 hk0 45 (by rw [hs15]; omega) (.string ⟨#[82, 83, 53, 49, 50]⟩) (.bool false) (.bool false)
  obtain ⟨cs16, hcn0⟩ : ∃ cs16, cs16 = (((cs15.setIfInBounds 45 (.string ⟨#[82, 83, 53, 49, 50]⟩)).setIfInBounds 46 (.bool false)).setIfInBounds 47 (.bool false)) := ⟨_, rfl⟩
  obtain ⟨z0, hz0⟩ : ∃ z0, z0 = (((w1.setCell ⟨b, 45, none⟩ (.string ⟨#[82, 83, 53, 49, 50]⟩)).setCell ⟨b, 46, none⟩ (.bool false)).setCell ⟨b, 47, none⟩ (.bool false)) := ⟨_, rfl⟩
  have hs16 : cs16.size = 48 := by rw [hcn0]; simp [hs15]
  simp only [Nat.reduceAdd] at p0_1 f0_1 p0_2 f0_2 hk1 g0
  rw [← hz0] at hk1 g0
  rw [← hcn0] at hk1
  have HC0 := Lib.hid hcn0
  clear hcn0
  have HBn := Lib.hid hk1
  have HG := Lib.hid (g0)
  have HDm := Lib.hid (show Below w.heap.size w z0 from HDn.out.grown HG.out HDn.out.size (by intro j hj; cases hj; rw [HE.out]; exact Nat.le_refl _))
  clear HB HD hk0 hk1 g0 HDn HG
  go_wp2_with fail
  rw [← hz0]
  clear hz0 p0_0 f0_0 p0_1 f0_1 p0_2 f0_2
  have HC_15 := HC0
  clear HC0
  have HB := HBn
  have HD := HDm
  clear HBn HDm
  have hfin : cs16 = cellsSignature := by
    rw [HC_15.out, HC_14.out, HC_13.out, HC_12.out, HC_11.out, HC_10.out, HC_9.out, HC_8.out, HC_7.out, HC_6.out, HC_5.out, HC_4.out, HC_3.out, HC_2.out, HC_1.out, HC_0.out, HC.out]; rfl
  have HB' := HB.out
  rw [hfin] at HB'
  go_ret
  exact ⟨rfl, HE.out ▸ HD.out, HB'⟩
end Go.Proofs.YtlbnemnadegapaaDoor.Nq
