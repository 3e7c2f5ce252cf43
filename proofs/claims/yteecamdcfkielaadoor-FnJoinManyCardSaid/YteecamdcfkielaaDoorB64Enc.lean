/- Walks of base64's encodings: WithPadding, and the four encodings; no condition. -/
import Derived.Test.YteecamdcfkielaaDoorB64New
set_option linter.unusedVariables false
set_option linter.unusedSimpArgs false
namespace Go.Proofs.YteecamdcfkielaaDoor.B64
open Go.RowKit Go.Proofs.YteecamdcfkielaaDoor.K Go.Proofs.YteecamdcfkielaaDoor.Own
theorem encC_pad (al dm : List UInt8) (p q : Int) (ha : al.length = 64) (hd : dm.length = 256) : (encC al dm p).toArray.setIfInBounds 320 (.int .i32 q) = (encC al dm q).toArray := by
  rw [List.setIfInBounds_toArray]
  congr 1
  unfold encC
  rw [List.set_append_right _ _ (by rw [bys_length]; omega), bys_length, ha, List.set_append_right _ _ (by rw [bys_length]; omega), bys_length, hd]
  rfl
theorem info_enc : (Tryd.prog.info? 78).map (·.size) = some 322 := by kernel_rfl
set_option maxRecDepth 100000 in
set_option maxHeartbeats 2000000 in
theorem WithPadding_calls (w : World) (al dm : List UInt8) (ha : al.length = 64) (hd : dm.length = 256) :
    Calls Tryd.prog 31 #[.agg (encC al dm 61).toArray, .int .i32 (-1)] w fun e w' => e = .returned (.pointer (some ⟨w.heap.size, 0, none⟩)) ∧ Blk w' w.heap.size 78 (encC al dm (-1)).toArray ∧ Below w.heap.size w w' := by
  have hset : ((encC al dm 61).set 320 (.int .i32 (-1))).toArray = (encC al dm (-1)).toArray := by
    rw [← encC_pad al dm 61 (-1) ha hd, List.setIfInBounds_toArray]
  have hb1 : Blk (w.alloc (.cells ((encC al dm 61).set 320 (.int .i32 (-1))).toArray 78)) w.heap.size 78 (encC al dm (-1)).toArray := by
    rw [hset]
    exact Blk.new _ _ _
  have hb0 := Blk.new w 78 (encC al dm 61).toArray
  have hf := hb0.frozen 320
  have hc : (w.alloc (.cells (encC al dm 61).toArray 78)).cell? ⟨w.heap.size, 320, none⟩ = some (.int .i32 61) := by
    rw [hb0.cell, List.getElem?_toArray, encC, List.getElem?_append_right (by rw [bys_length]; omega), bys_length, ha, List.getElem?_append_right (by rw [bys_length]; omega), bys_length, hd]
    rfl
  have HB1 := Lib.hid hb1
  clear hb0 hb1 hset
  go_enter Tryd.func31, Tryd.ntmps31
  go_wp2
  go_ret
  exact ⟨rfl, HB1.out, below_alloc' (Below.refl _ _) _⟩
def alStd : List UInt8 := [65, 66, 67, 68, 69, 70, 71, 72, 73, 74, 75, 76, 77, 78, 79, 80, 81, 82, 83, 84, 85, 86, 87, 88, 89, 90, 97, 98, 99, 100, 101, 102, 103, 104, 105, 106, 107, 108, 109, 110, 111, 112, 113, 114, 115, 116, 117, 118, 119, 120, 121, 122, 48, 49, 50, 51, 52, 53, 54, 55, 56, 57, 43, 47]
def alURL : List UInt8 := [65, 66, 67, 68, 69, 70, 71, 72, 73, 74, 75, 76, 77, 78, 79, 80, 81, 82, 83, 84, 85, 86, 87, 88, 89, 90, 97, 98, 99, 100, 101, 102, 103, 104, 105, 106, 107, 108, 109, 110, 111, 112, 113, 114, 115, 116, 117, 118, 119, 120, 121, 122, 48, 49, 50, 51, 52, 53, 54, 55, 56, 57, 45, 95]
theorem std_ok : ∀ i, i < 64 → bt alStd i ≠ 10 ∧ bt alStd i ≠ 13 := by decide
theorem url_ok : ∀ i, i < 64 → bt alURL i ≠ 10 ∧ bt alURL i ≠ 13 := by decide
theorem std_ne : ∀ i, i < 64 → bt (dmap alStd i) (bt alStd i).toNat = 255 := by decide +kernel
theorem url_ne : ∀ i, i < 64 → bt (dmap alURL i) (bt alURL i).toNat = 255 := by decide +kernel
set_option maxRecDepth 100000 in
set_option maxHeartbeats 2000000 in
theorem zzStdPadded_calls (w : World) : Calls Tryd.prog 75 #[] w fun e w' => e = .returned (.pointer (some ⟨w.heap.size, 0, none⟩)) ∧ Blk w' w.heap.size 78 (encC alStd (dmap alStd 64) 61).toArray ∧ Below w.heap.size w w' := by
  have hn := Lib.hid (NewEncoding_calls w alStd (by rfl) std_ok std_ne)
  go_enter Tryd.func75, Tryd.ntmps75
  go_wp2_with (go_at_call 30; refine hn.out.mono ?_; rintro e w1 ⟨rfl, hb1, hB1⟩; have HB1 := Lib.hid hb1; have HBB1 := Lib.hid hB1; clear hb1 hB1)
  go_ret
  exact ⟨rfl, HB1.out, HBB1.out⟩
set_option maxRecDepth 100000 in
set_option maxHeartbeats 2000000 in
theorem zzURL_calls (w : World) : Calls Tryd.prog 73 #[] w fun e w' => e = .returned (.pointer (some ⟨w.heap.size, 0, none⟩)) ∧ Blk w' w.heap.size 78 (encC alURL (dmap alURL 64) 61).toArray ∧ Below w.heap.size w w' := by
  have hn := Lib.hid (NewEncoding_calls w alURL (by rfl) url_ok url_ne)
  go_enter Tryd.func73, Tryd.ntmps73
  go_wp2_with (go_at_call 30; refine hn.out.mono ?_; rintro e w1 ⟨rfl, hb1, hB1⟩; have HB1 := Lib.hid hb1; have HBB1 := Lib.hid hB1; clear hb1 hB1)
  go_ret
  exact ⟨rfl, HB1.out, HBB1.out⟩
set_option maxRecDepth 100000 in
set_option maxHeartbeats 2000000 in
theorem zzRawStd_calls (w : World) : Calls Tryd.prog 74 #[] w fun e w' => ∃ g, e = .returned (.pointer (some ⟨g, 0, none⟩)) ∧ w.heap.size ≤ g ∧ Blk w' g 78 (encC alStd (dmap alStd 64) (-1)).toArray ∧ Below w.heap.size w w' := by
  have hn := Lib.hid (NewEncoding_calls w alStd (by rfl) std_ok std_ne)
  have hsz : Hid ((Tryd.prog.info? 78).map (·.size) = some (encC alStd (dmap alStd 64) 61).toArray.size) := Lib.hid (by rw [List.size_toArray, encC_len _ _ _ (by rfl) (dmap_len _ _)]; exact info_enc)
  go_enter Tryd.func74, Tryd.ntmps74
  go_wp2_with (first
    | (go_at_call 30; refine hn.out.mono ?_; rintro e w1 ⟨rfl, hb1, hB1⟩; have HB1 := Lib.hid hb1; have HBB1 := Lib.hid hB1; clear hb1 hB1)
    | (refine wpList_load_row rfl _ _ rfl w.heap.size rfl 78 (encC alStd (dmap alStd 64) 61).toArray (0, 0) _ HB1.out Tryd.underlying78 rfl hsz.out ?_)
    | (go_at_call 31; refine (WithPadding_calls w1 alStd (dmap alStd 64) (by rfl) (dmap_len _ _)).mono ?_; rintro e w2 ⟨rfl, hb2, hB2⟩; have HB2 := Lib.hid hb2; have HBB2 := Lib.hid (below_then HBB1.out hB2); clear hb2 hB2))
  go_ret
  exact ⟨_, rfl, HBB1.out.size, HB2.out, HBB2.out⟩
set_option maxRecDepth 100000 in
set_option maxHeartbeats 2000000 in
theorem zzRawURL_calls (w : World) : Calls Tryd.prog 28 #[] w fun e w' => ∃ g, e = .returned (.pointer (some ⟨g, 0, none⟩)) ∧ w.heap.size ≤ g ∧ Blk w' g 78 (encC alURL (dmap alURL 64) (-1)).toArray ∧ Below w.heap.size w w' := by
  have hn := Lib.hid (NewEncoding_calls w alURL (by rfl) url_ok url_ne)
  have hsz : Hid ((Tryd.prog.info? 78).map (·.size) = some (encC alURL (dmap alURL 64) 61).toArray.size) := Lib.hid (by rw [List.size_toArray, encC_len _ _ _ (by rfl) (dmap_len _ _)]; exact info_enc)
  go_enter Tryd.func28, Tryd.ntmps28
  go_wp2_with (first
    | (go_at_call 30; refine hn.out.mono ?_; rintro e w1 ⟨rfl, hb1, hB1⟩; have HB1 := Lib.hid hb1; have HBB1 := Lib.hid hB1; clear hb1 hB1)
    | (refine wpList_load_row rfl _ _ rfl w.heap.size rfl 78 (encC alURL (dmap alURL 64) 61).toArray (0, 0) _ HB1.out Tryd.underlying78 rfl hsz.out ?_)
    | (go_at_call 31; refine (WithPadding_calls w1 alURL (dmap alURL 64) (by rfl) (dmap_len _ _)).mono ?_; rintro e w2 ⟨rfl, hb2, hB2⟩; have HB2 := Lib.hid hb2; have HBB2 := Lib.hid (below_then HBB1.out hB2); clear hb2 hB2))
  go_ret
  exact ⟨_, rfl, HBB1.out.size, HB2.out, HBB2.out⟩
end Go.Proofs.YteecamdcfkielaaDoor.B64
