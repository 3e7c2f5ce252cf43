/- slices.Delete of one int: the shelf's contract laid at this program, in rows' words. -/
import Derived.Test.YtlbnemnadegapaaGreatDoorKyClone
import Derived.Shelf.Slices.Delete
import Derived.Sort.OwnSortedInts
set_option linter.unusedVariables false
set_option linter.unusedSimpArgs false
namespace Go.Proofs.YtlbnemnadegapaaGreatDoor.Ky
open Go.RowKit Go.Shelf Go.Proofs.YtlbnemnadegapaaGreatDoor.K Go.Proofs.YtlbnemnadegapaaGreatDoor.Nm
def renD : Ren := ⟨fun x => if x = 23 then 18 else x, fun t => if t = 3 then 3 else if t = 4 then 4 else if t = 22 then 31 else t, fun x => x⟩
theorem laysD : Lays2.n23 Tryz.prog renD where
  mixed := by kernel_rfl
  f23 := by kernel_rfl
  t0 := by kernel_rfl
  a0 := fun w => by kernel_rfl
  z0 := fun w => by kernel_rfl
  v0 := fun w => by kernel_rfl
  t3 := by kernel_rfl
  a3 := fun w => by kernel_rfl
  z3 := fun w => by kernel_rfl
  v3 := fun w => by kernel_rfl
  t4 := by kernel_rfl
  a4 := fun w => by kernel_rfl
  z4 := fun w => by kernel_rfl
  v4 := fun w => by kernel_rfl
  t22 := by kernel_rfl
  a22 := fun w => by kernel_rfl
  z22 := fun w => by kernel_rfl
  v22 := fun w => by kernel_rfl
  i3 := by kernel_rfl
section
variable {w w' : World}
theorem DeleteI_calls {B g off c n : Nat} {l : List Int} (h : KL w B 3 (.slice (some ⟨g, off, none⟩) n c) (l.map (Value.int .i64))) (k : Nat) (hk : k < l.length) (hB : B ≤ w.heap.size) :
    Calls Tryz.prog 18 #[.slice (some ⟨g, off, none⟩) n c, .int .i64 (k : Nat), .int .i64 ((k : Int) + 1)] w fun e w' => e = .returned (.slice (some ⟨g, off, none⟩) (l.length - 1) c) ∧ KL w' B 3 (.slice (some ⟨g, off, none⟩) (l.length - 1) c) ((l.eraseIdx k).map (Value.int .i64)) ∧ Below B w w' := by
  obtain ⟨A, c1, e1, h2, h3, h4⟩ := h
  rw [List.length_map] at e1 h2
  injection e1 with e1 e2 e3
  subst e2; subst e3
  rcases h4 with ⟨rfl, _⟩ | ⟨g1, off1, cs, rfl, a2, a3, a4, a5⟩
  · cases e1
  injection e1 with e1
  injection e1 with e1 e4
  subst e1; subst e4
  have hH : Go.Sort.Holds (Value.int .i64) w g off l.toArray := by
    intro j hj
    have hj' : j < l.length := by simpa using hj
    refine ⟨?_, a3.frozen _⟩
    rw [a3.cell, a5 j (by simpa using hj')]
    simp [getElem!_pos, hj']
  have := Any.slices_Delete_int laysD g off c k (k + 1) l w hH h2 (by unfold maxLen at h3; omega) (by omega) (by omega)
  refine Calls.mono (show Calls Tryz.prog 18 #[.slice (some ⟨g, off, none⟩) l.length c, .int .i64 (k : Nat), .int .i64 ((k : Int) + 1)] w _ from this) ?_
  rintro e w1 ⟨rfl, q, rfl⟩
  have hel : l.take k ++ l.drop (k + 1) = l.eraseIdx k := (List.eraseIdx_eq_take_drop_succ l k).symm
  have hlen : (l.eraseIdx k).length = l.length - 1 := by rw [List.length_eraseIdx, if_pos hk]
  rw [hel, show k + 1 - k = 1 by omega]
  have hb : Blk (Go.Sort.putRow (Value.int .i64) (Go.Sort.ahead w q) g off (l.eraseIdx k ++ List.replicate 1 0).toArray) g 3 (Go.Sort.putCells (Value.int .i64) off (l.eraseIdx k ++ List.replicate 1 0).toArray cs) := by
    have hb0 : w.heap[g]? = some (.cells cs 3 (0, 0)) := a3
    unfold Blk
    simp [Go.Sort.putRow, Go.Sort.mapBlock, Go.Sort.ahead, Array.getElem?_modify, hb0, Go.Sort.onCells]
  refine ⟨rfl, ⟨_, c, by rw [List.length_map, hlen], by rw [List.length_map, hlen]; omega, h3, .inr ⟨g, off, _, rfl, a2, hb, by simpa [Go.Sort.putCells] using a4, fun j hj => ?_⟩⟩, rfl, rfl, rfl, by simp [Go.Sort.putRow, Go.Sort.mapBlock, Go.Sort.ahead], fun b hb' => ?_⟩
  · have hj' : j < (l.eraseIdx k).length := by simpa using hj
    have hjc : off + j < cs.size := by omega
    have hd : (l.eraseIdx k ++ List.replicate 1 0).toArray[j]! = (l.eraseIdx k)[j] := by
      rw [getElem!_pos _ j (by simp; omega)]
      simp only [List.getElem_toArray]
      rw [List.getElem_append_left hj']
    have hsz : off + j < off + (l.eraseIdx k ++ List.replicate 1 (0 : Int)).toArray.size := by
      rw [List.size_toArray, List.length_append]
      omega
    have hget : (Go.Sort.putCells (Value.int .i64) off (l.eraseIdx k ++ List.replicate 1 0).toArray cs)[off + j]? = some (.int .i64 (l.eraseIdx k ++ List.replicate 1 0).toArray[j]!) := by
      unfold Go.Sort.putCells
      rw [Array.getElem?_mapIdx, Array.getElem?_eq_getElem hjc, Option.map_some, if_pos ⟨Nat.le_add_right _ _, hsz⟩, Nat.add_sub_cancel_left]
    rw [hget, hd, List.getElem_map]
  · have hne : g ≠ b := by omega
    unfold Go.Sort.putRow Go.Sort.mapBlock Go.Sort.ahead
    simp only []
    rw [Array.getElem?_modify, if_neg hne]
end
end Go.Proofs.YtlbnemnadegapaaGreatDoor.Ky
