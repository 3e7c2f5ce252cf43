/- Walks of the cipher's methods: a block is changed in place; no condition. -/
import Derived.Test.YteecamdcfkielaaDoorMixed
import Derived.Deep.RegionHeld3
import Derived.Deep.MidRow
set_option linter.unusedVariables false
set_option linter.unusedSimpArgs false
namespace Go.Proofs.YteecamdcfkielaaDoor.Wr
open Go.RowKit Go.Proofs.YteecamdcfkielaaDoor.K Go.Proofs.YteecamdcfkielaaDoor.Own
theorem undrew {B : Nat} {a b : World} (h : Below B a.drew b) : Below B a b := ⟨h.os, h.tape, h.output, h.size, h.block⟩
theorem Blk.range {w : World} {g : Nat} {t : TypeId} {cs : Array Value} (h : Blk w g t cs) : w.rangeAt g 0 cs.toList := fun j v hv => by
  rw [h.cell, Nat.zero_add, ← hv]; simp
theorem encB_len (s : Nat) (bs : List UInt8) : (encB s bs).length = 16 := by simp [encB, b8_length]
theorem decB_len (s : Nat) (bs : List UInt8) : (decB s bs).length = 16 := by simp [decB, b8_length]
theorem below_low {B : Nat} {a b : World} (h : Below (B + 1) a b) : Below B a b := h.mono (by omega)
set_option maxRecDepth 100000 in
set_option maxHeartbeats 2000000 in
theorem Encrypt_calls (w : World) (s g : Nat) (bs : List UInt8) (hs : s < 18446744073709551616) (h : bs.length = 16) (hb : Blk w g 5 (bys bs).toArray) :
    Calls Tryd.prog 50 #[.agg #[.int .u64 s], .slice (some ⟨g, 0, none⟩) 16 16, .slice (some ⟨g, 0, none⟩) 16 16] w fun e w' => e = .returned (.tuple #[]) ∧ Blk w' g 5 (bys (encB s bs)).toArray ∧ w.grownBy w' (some g) := by
  have hat : ∀ W, (Instr.arrayAt 96 (.slice (some ⟨g, 0, none⟩) 16 16)).run Tryd.prog W = .ok (.pointer (some ⟨g, 0, none⟩)) W := fun W => by kernel_rfl
  have hgl := hb.lt
  have hSB : ∀ W, Below (w.heap.size + 1) (w.alloc (.cells #[.int .u64 s] 40)).drew W → W.rangeAt g 0 (bys bs) := fun W hW => by
    simpa using Blk.range ((hb.alloc (.cells #[.int .u64 s] 40)).below (undrew hW) (by omega))
  have hSc : ∀ W, Below (w.heap.size + 1) (w.alloc (.cells #[.int .u64 s] 40)).drew W → W.cell? ⟨w.heap.size, 0, none⟩ = some (.int .u64 s) := fun W hW => by
    rw [hW.cell (by simp)]
    simp
  have HSB := Lib.hid hSB
  have HSC := Lib.hid hSc
  clear hSB hSc
  have hinf : ∀ l : List UInt8, l.length = 16 → (Tryd.prog.info? 96).map (·.size) = some (bys l).toArray.size := fun l hl => by simpa [bys, hl] using info_arr
  have HI := Lib.hid hinf
  clear hinf
  go_enter Tryd.func50, Tryd.ntmps50
  go_wp2
  rename_i Q1 K1 k1
  refine wp_region_held_drew (S := fun W => Below (w.heap.size + 1) (w.alloc (.cells #[.int .u64 s] 40)).drew W) (by kernel_rfl) (Below.refl _ _) (fun hH => ?_)
  refine wpAnyH_take (i := 0) (by simp only [List.getElem?_toArray, List.getElem?_cons_succ, List.getElem?_cons_zero]; rfl) (by kernel_rfl) (by kernel_rfl) (by kernel_rfl) (by exact fun _ _ _ h => h) (Or.inl ⟨by rfl, fun W hW => by go_simp; rfl⟩) (by assumption) ?_
  simp only [Act.put, List.setIfInBounds_toArray, List.set_cons_zero, List.set_cons_succ]
  refine wpAnyH_take (i := 1) (by simp only [List.getElem?_toArray, List.getElem?_cons_succ, List.getElem?_cons_zero]; rfl) (by kernel_rfl) (by kernel_rfl) (by kernel_rfl) (by exact fun _ _ _ h => h) (Or.inl ⟨by rfl, fun W hW => by have hc := HSC.out W hW; go_simp; rfl⟩) (by assumption) ?_
  simp only [Act.put, List.setIfInBounds_toArray, List.set_cons_zero, List.set_cons_succ]
  refine wpAnyH_take (i := 2) (by simp only [List.getElem?_toArray, List.getElem?_cons_succ, List.getElem?_cons_zero]; rfl) (by kernel_rfl) (by kernel_rfl) (by kernel_rfl) (by exact fun _ _ _ h => h) (Or.inl ⟨by rfl, fun W hW => by go_simp; rfl⟩) (by assumption) ?_
  simp only [Act.put, List.setIfInBounds_toArray, List.set_cons_zero, List.set_cons_succ]
  refine wpAnyH_take (i := 3) (by simp only [List.getElem?_toArray, List.getElem?_cons_succ, List.getElem?_cons_zero]; rfl) (by kernel_rfl) (by kernel_rfl) (by kernel_rfl) (by exact fun _ _ _ h => h) (Or.inl ⟨by rfl, fun W hW => by go_simp; rfl⟩) (by assumption) ?_
  simp only [Act.put, List.setIfInBounds_toArray, List.set_cons_zero, List.set_cons_succ]
  refine wpAnyH_take (i := 4) (by simp only [List.getElem?_toArray, List.getElem?_cons_succ, List.getElem?_cons_zero]; rfl) (by kernel_rfl) (by kernel_rfl) (by kernel_rfl) (by exact fun _ _ _ h => h) (yieldsIf_load_mid (by rfl) _ _ rfl g 0 rfl (bys bs) _ HSB.out Tryd.underlying96 rfl (by simpa [bys, h] using info_arr)) (by assumption) ?_
  simp only [Act.put, List.setIfInBounds_toArray, List.set_cons_zero, List.set_cons_succ]
  have hw0 : Below w.heap.size w (w.alloc (.cells #[.int .u64 s] 40)).drew := (below_alloc' (Below.refl _ _) _).drew
  refine wpAnyH_ready (rs := [5, 6]) (by kernel_rfl) (by simp) (AllReadyH.cons (by simp only [List.getElem?_toArray, List.getElem?_cons_succ, List.getElem?_cons_zero]; rfl) (fun K hK => ?_) (AllReadyH.cons (by simp only [List.getElem?_toArray, List.getElem?_cons_succ, List.getElem?_cons_zero]; rfl) (fun K hK => ?_) AllReadyH.nil))
  · rw [if_pos (by rfl)]
    go_simp
    refine (Mixed_calls _ s bs hs h).mono ?_
    rintro e W1 ⟨rfl, hB1⟩
    have hH1 : Below (w.heap.size + 1) (w.alloc (.cells #[.int .u64 s] 40)).drew W1 := hH.trans (hB1.mono (by simp))
    refine hK.out _ _ hH1 (fun _ => ?_)
    refine wpAnyH_ready (rs := [6]) (by kernel_rfl) (by simp) (AllReadyH.cons (by simp only [List.getElem?_toArray, List.getElem?_cons_succ, List.getElem?_cons_zero]; rfl) (fun K2 hK2 => ?_) AllReadyH.nil)
    rw [if_pos (by rfl)]
    go_simp
    have hsz : w.heap.size + 1 ≤ W1.heap.size := by simpa using hH1.size
    have hH2 := hH1.alloc hsz (.cells Z16 96)
    refine hK2.out _ _ hH2 (fun _ => ?_)
    refine wpAnyH_ready (rs := [7]) (by kernel_rfl) (by simp) (AllReadyH.cons (by simp only [List.getElem?_toArray, List.getElem?_cons_succ, List.getElem?_cons_zero]; rfl) (fun K3 hK3 => ?_) AllReadyH.nil)
    rw [if_pos (by rfl)]
    have hL := Blk.new W1 96 Z16
    refine wp_store_row _ _ _ rfl W1.heap.size (bys (encB s bs)).toArray rfl rfl 96 Z16 hL (HI.out _ (encB_len s bs)) (by simp [bys, encB_len, Z16]) (bys_all _) ?_
    have hH3 := below_of_grown (B := w.heap.size + 1) (setRow_grown (W1.alloc (.cells Z16 96)) W1.heap.size (bys (encB s bs)).toArray) hsz (by simp; omega)
    refine hK3.out _ ((W1.alloc (.cells Z16 96)).setRow W1.heap.size (bys (encB s bs)).toArray) (hH2.trans hH3) (fun _ => ?_)
    have hL3 : Blk ((W1.alloc (.cells Z16 96)).setRow W1.heap.size (bys (encB s bs)).toArray) W1.heap.size 96 (bys (encB s bs)).toArray := setRow_heap _ _ _ _ _ _ hL
    have hW3 : Below w.heap.size w ((W1.alloc (.cells Z16 96)).setRow W1.heap.size (bys (encB s bs)).toArray) := hw0.trans (below_low (hH2.trans hH3))
    generalize (W1.alloc (.cells Z16 96)).setRow W1.heap.size (bys (encB s bs)).toArray = W3 at *
    generalize W1.heap.size = L at *
    refine wpAnyH_done (by kernel_rfl) ?_ _
    refine k1 _ _ ?_
    have hbW : Blk W3 g 5 (bys bs).toArray := hb.below hW3 hgl
    have hrd : Reads W3 1 (some ⟨L, 0, none⟩) 16 (bys (encB s bs)) := by
      have := Blk.reads hL3 1 16 0 (by simp [bys, encB_len])
      simpa [bys, encB_len, List.take_of_length_le] using this
    have HRD := Lib.hid hrd
    have HBW := Lib.hid hbW
    have HWW := Lib.hid hW3
    clear hrd hbW
    go_wp2_with (refine wpList_copy_only rfl _ _ _ _ rfl 5 Tryd.underlying23 (by kernel_rfl) (some ⟨g, 0, none⟩) (some ⟨L, 0, none⟩) 16 16 16 16 rfl rfl g 0 (bys bs) 5 HBW.out (bys (encB s bs)) HRD.out (fun _ => rfl) (by simp [bys, h]) (bys_one _) (bys (encB s bs)) (by simp [splice, bys, h, encB_len, List.take_of_length_le]) ?_; intro w9 hb9 hg9 hs9; have HB9 := Lib.hid hb9; have HG9 := Lib.hid hg9; clear hb9 hg9)
    exact ⟨rfl, .tuple #[], by kernel_rfl, rfl, HB9.out, grown_trans (grown_of_below HWW.out (Nat.le_refl _) _) HG9.out⟩
  · rw [if_pos (by rfl)]
    go_simp
    have hH2 := hH.alloc (by simp) (.cells Z16 96)
    refine hK.out _ _ hH2 (fun _ => ?_)
    refine wpAnyH_ready (rs := [5]) (by kernel_rfl) (by simp) (AllReadyH.cons (by simp only [List.getElem?_toArray, List.getElem?_cons_succ, List.getElem?_cons_zero]; rfl) (fun K2 hK2 => ?_) AllReadyH.nil)
    rw [if_pos (by rfl)]
    go_simp
    refine (Mixed_calls _ s bs hs h).mono ?_
    rintro e W1 ⟨rfl, hB1⟩
    have hH1 := hH2.trans (hB1.mono (B' := w.heap.size + 1) (by simp))
    refine hK2.out _ _ hH1 (fun _ => ?_)
    refine wpAnyH_ready (rs := [7]) (by kernel_rfl) (by simp) (AllReadyH.cons (by simp only [List.getElem?_toArray, List.getElem?_cons_succ, List.getElem?_cons_zero]; rfl) (fun K3 hK3 => ?_) AllReadyH.nil)
    rw [if_pos (by rfl)]
    have hL : Blk W1 (w.heap.size + 1) 96 Z16 := by
      have := (Blk.new (w.alloc (.cells #[.int .u64 s] 40)).drew 96 Z16).below hB1 (by simp)
      simpa using this
    refine wp_store_row _ _ _ rfl (w.heap.size + 1) (bys (encB s bs)).toArray rfl rfl 96 Z16 hL (HI.out _ (encB_len s bs)) (by simp [bys, encB_len, Z16]) (bys_all _) ?_
    have hH3 := below_of_grown (B := w.heap.size + 1) (setRow_grown W1 (w.heap.size + 1) (bys (encB s bs)).toArray) (by omega) (by simpa using hH1.size)
    refine hK3.out _ _ (hH1.trans hH3) (fun _ => ?_)
    have hL3 : Blk (W1.setRow (w.heap.size + 1) (bys (encB s bs)).toArray) (w.heap.size + 1) 96 (bys (encB s bs)).toArray := setRow_heap _ _ _ _ _ _ hL
    have hW3 : Below w.heap.size w (W1.setRow (w.heap.size + 1) (bys (encB s bs)).toArray) := hw0.trans (below_low (hH1.trans hH3))
    generalize W1.setRow (w.heap.size + 1) (bys (encB s bs)).toArray = W3 at *
    obtain ⟨L, hLe⟩ : ∃ L, L = w.heap.size + 1 := ⟨_, rfl⟩
    have HLE := Lib.hid hLe
    rw [← hLe] at hL3 ⊢
    clear hLe
    refine wpAnyH_done (by kernel_rfl) ?_ _
    refine k1 _ _ ?_
    have hbW : Blk W3 g 5 (bys bs).toArray := hb.below hW3 hgl
    have hrd : Reads W3 1 (some ⟨L, 0, none⟩) 16 (bys (encB s bs)) := by
      have := Blk.reads hL3 1 16 0 (by simp [bys, encB_len])
      simpa [bys, encB_len, List.take_of_length_le] using this
    have HRD := Lib.hid hrd
    have HBW := Lib.hid hbW
    have HWW := Lib.hid hW3
    clear hrd hbW
    go_wp2_with (refine wpList_copy_only rfl _ _ _ _ rfl 5 Tryd.underlying23 (by kernel_rfl) (some ⟨g, 0, none⟩) (some ⟨L, 0, none⟩) 16 16 16 16 rfl rfl g 0 (bys bs) 5 HBW.out (bys (encB s bs)) HRD.out (fun _ => rfl) (by simp [bys, h]) (bys_one _) (bys (encB s bs)) (by simp [splice, bys, h, encB_len, List.take_of_length_le]) ?_; intro w9 hb9 hg9 hs9; have HB9 := Lib.hid hb9; have HG9 := Lib.hid hg9; clear hb9 hg9)
    exact ⟨rfl, .tuple #[], by kernel_rfl, rfl, HB9.out, grown_trans (grown_of_below HWW.out (Nat.le_refl _) _) HG9.out⟩
set_option maxRecDepth 100000 in
set_option maxHeartbeats 2000000 in
theorem Decrypt_calls (w : World) (s g : Nat) (bs : List UInt8) (hs : s < 18446744073709551616) (h : bs.length = 16) (hb : Blk w g 5 (bys bs).toArray) :
    Calls Tryd.prog 49 #[.agg #[.int .u64 s], .slice (some ⟨g, 0, none⟩) 16 16, .slice (some ⟨g, 0, none⟩) 16 16] w fun e w' => e = .returned (.tuple #[]) ∧ Blk w' g 5 (bys (decB s bs)).toArray ∧ w.grownBy w' (some g) := by
  have hat : ∀ W, (Instr.arrayAt 96 (.slice (some ⟨g, 0, none⟩) 16 16)).run Tryd.prog W = .ok (.pointer (some ⟨g, 0, none⟩)) W := fun W => by kernel_rfl
  have hgl := hb.lt
  have hSB : ∀ W, Below (w.heap.size + 1) (w.alloc (.cells #[.int .u64 s] 40)).drew W → W.rangeAt g 0 (bys bs) := fun W hW => by
    simpa using Blk.range ((hb.alloc (.cells #[.int .u64 s] 40)).below (undrew hW) (by omega))
  have hSc : ∀ W, Below (w.heap.size + 1) (w.alloc (.cells #[.int .u64 s] 40)).drew W → W.cell? ⟨w.heap.size, 0, none⟩ = some (.int .u64 s) := fun W hW => by
    rw [hW.cell (by simp)]
    simp
  have HSB := Lib.hid hSB
  have HSC := Lib.hid hSc
  clear hSB hSc
  have hinf : ∀ l : List UInt8, l.length = 16 → (Tryd.prog.info? 96).map (·.size) = some (bys l).toArray.size := fun l hl => by simpa [bys, hl] using info_arr
  have HI := Lib.hid hinf
  clear hinf
  go_enter Tryd.func49, Tryd.ntmps49
  go_wp2
  rename_i Q1 K1 k1
  refine wp_region_held_drew (S := fun W => Below (w.heap.size + 1) (w.alloc (.cells #[.int .u64 s] 40)).drew W) (by kernel_rfl) (Below.refl _ _) (fun hH => ?_)
  refine wpAnyH_take (i := 0) (by simp only [List.getElem?_toArray, List.getElem?_cons_succ, List.getElem?_cons_zero]; rfl) (by kernel_rfl) (by kernel_rfl) (by kernel_rfl) (by exact fun _ _ _ h => h) (Or.inl ⟨by rfl, fun W hW => by go_simp; rfl⟩) (by assumption) ?_
  simp only [Act.put, List.setIfInBounds_toArray, List.set_cons_zero, List.set_cons_succ]
  refine wpAnyH_take (i := 1) (by simp only [List.getElem?_toArray, List.getElem?_cons_succ, List.getElem?_cons_zero]; rfl) (by kernel_rfl) (by kernel_rfl) (by kernel_rfl) (by exact fun _ _ _ h => h) (Or.inl ⟨by rfl, fun W hW => by have hc := HSC.out W hW; go_simp; rfl⟩) (by assumption) ?_
  simp only [Act.put, List.setIfInBounds_toArray, List.set_cons_zero, List.set_cons_succ]
  refine wpAnyH_take (i := 2) (by simp only [List.getElem?_toArray, List.getElem?_cons_succ, List.getElem?_cons_zero]; rfl) (by kernel_rfl) (by kernel_rfl) (by kernel_rfl) (by exact fun _ _ _ h => h) (Or.inl ⟨by rfl, fun W hW => by go_simp; rfl⟩) (by assumption) ?_
  simp only [Act.put, List.setIfInBounds_toArray, List.set_cons_zero, List.set_cons_succ]
  refine wpAnyH_take (i := 3) (by simp only [List.getElem?_toArray, List.getElem?_cons_succ, List.getElem?_cons_zero]; rfl) (by kernel_rfl) (by kernel_rfl) (by kernel_rfl) (by exact fun _ _ _ h => h) (Or.inl ⟨by rfl, fun W hW => by go_simp; rfl⟩) (by assumption) ?_
  simp only [Act.put, List.setIfInBounds_toArray, List.set_cons_zero, List.set_cons_succ]
  refine wpAnyH_take (i := 4) (by simp only [List.getElem?_toArray, List.getElem?_cons_succ, List.getElem?_cons_zero]; rfl) (by kernel_rfl) (by kernel_rfl) (by kernel_rfl) (by exact fun _ _ _ h => h) (yieldsIf_load_mid (by rfl) _ _ rfl g 0 rfl (bys bs) _ HSB.out Tryd.underlying96 rfl (by simpa [bys, h] using info_arr)) (by assumption) ?_
  simp only [Act.put, List.setIfInBounds_toArray, List.set_cons_zero, List.set_cons_succ]
  have hw0 : Below w.heap.size w (w.alloc (.cells #[.int .u64 s] 40)).drew := (below_alloc' (Below.refl _ _) _).drew
  refine wpAnyH_ready (rs := [5, 6]) (by kernel_rfl) (by simp) (AllReadyH.cons (by simp only [List.getElem?_toArray, List.getElem?_cons_succ, List.getElem?_cons_zero]; rfl) (fun K hK => ?_) (AllReadyH.cons (by simp only [List.getElem?_toArray, List.getElem?_cons_succ, List.getElem?_cons_zero]; rfl) (fun K hK => ?_) AllReadyH.nil))
  · rw [if_pos (by rfl)]
    go_simp
    refine (MixedBack_calls _ s bs hs h).mono ?_
    rintro e W1 ⟨rfl, hB1⟩
    have hH1 : Below (w.heap.size + 1) (w.alloc (.cells #[.int .u64 s] 40)).drew W1 := hH.trans (hB1.mono (by simp))
    refine hK.out _ _ hH1 (fun _ => ?_)
    refine wpAnyH_ready (rs := [6]) (by kernel_rfl) (by simp) (AllReadyH.cons (by simp only [List.getElem?_toArray, List.getElem?_cons_succ, List.getElem?_cons_zero]; rfl) (fun K2 hK2 => ?_) AllReadyH.nil)
    rw [if_pos (by rfl)]
    go_simp
    have hsz : w.heap.size + 1 ≤ W1.heap.size := by simpa using hH1.size
    have hH2 := hH1.alloc hsz (.cells Z16 96)
    refine hK2.out _ _ hH2 (fun _ => ?_)
    refine wpAnyH_ready (rs := [7]) (by kernel_rfl) (by simp) (AllReadyH.cons (by simp only [List.getElem?_toArray, List.getElem?_cons_succ, List.getElem?_cons_zero]; rfl) (fun K3 hK3 => ?_) AllReadyH.nil)
    rw [if_pos (by rfl)]
    have hL := Blk.new W1 96 Z16
    refine wp_store_row _ _ _ rfl W1.heap.size (bys (decB s bs)).toArray rfl rfl 96 Z16 hL (HI.out _ (decB_len s bs)) (by simp [bys, decB_len, Z16]) (bys_all _) ?_
    have hH3 := below_of_grown (B := w.heap.size + 1) (setRow_grown (W1.alloc (.cells Z16 96)) W1.heap.size (bys (decB s bs)).toArray) hsz (by simp; omega)
    refine hK3.out _ ((W1.alloc (.cells Z16 96)).setRow W1.heap.size (bys (decB s bs)).toArray) (hH2.trans hH3) (fun _ => ?_)
    have hL3 : Blk ((W1.alloc (.cells Z16 96)).setRow W1.heap.size (bys (decB s bs)).toArray) W1.heap.size 96 (bys (decB s bs)).toArray := setRow_heap _ _ _ _ _ _ hL
    have hW3 : Below w.heap.size w ((W1.alloc (.cells Z16 96)).setRow W1.heap.size (bys (decB s bs)).toArray) := hw0.trans (below_low (hH2.trans hH3))
    generalize (W1.alloc (.cells Z16 96)).setRow W1.heap.size (bys (decB s bs)).toArray = W3 at *
    generalize W1.heap.size = L at *
    refine wpAnyH_done (by kernel_rfl) ?_ _
    refine k1 _ _ ?_
    have hbW : Blk W3 g 5 (bys bs).toArray := hb.below hW3 hgl
    have hrd : Reads W3 1 (some ⟨L, 0, none⟩) 16 (bys (decB s bs)) := by
      have := Blk.reads hL3 1 16 0 (by simp [bys, decB_len])
      simpa [bys, decB_len, List.take_of_length_le] using this
    have HRD := Lib.hid hrd
    have HBW := Lib.hid hbW
    have HWW := Lib.hid hW3
    clear hrd hbW
    go_wp2_with (refine wpList_copy_only rfl _ _ _ _ rfl 5 Tryd.underlying23 (by kernel_rfl) (some ⟨g, 0, none⟩) (some ⟨L, 0, none⟩) 16 16 16 16 rfl rfl g 0 (bys bs) 5 HBW.out (bys (decB s bs)) HRD.out (fun _ => rfl) (by simp [bys, h]) (bys_one _) (bys (decB s bs)) (by simp [splice, bys, h, decB_len, List.take_of_length_le]) ?_; intro w9 hb9 hg9 hs9; have HB9 := Lib.hid hb9; have HG9 := Lib.hid hg9; clear hb9 hg9)
    exact ⟨rfl, .tuple #[], by kernel_rfl, rfl, HB9.out, grown_trans (grown_of_below HWW.out (Nat.le_refl _) _) HG9.out⟩
  · rw [if_pos (by rfl)]
    go_simp
    have hH2 := hH.alloc (by simp) (.cells Z16 96)
    refine hK.out _ _ hH2 (fun _ => ?_)
    refine wpAnyH_ready (rs := [5]) (by kernel_rfl) (by simp) (AllReadyH.cons (by simp only [List.getElem?_toArray, List.getElem?_cons_succ, List.getElem?_cons_zero]; rfl) (fun K2 hK2 => ?_) AllReadyH.nil)
    rw [if_pos (by rfl)]
    go_simp
    refine (MixedBack_calls _ s bs hs h).mono ?_
    rintro e W1 ⟨rfl, hB1⟩
    have hH1 := hH2.trans (hB1.mono (B' := w.heap.size + 1) (by simp))
    refine hK2.out _ _ hH1 (fun _ => ?_)
    refine wpAnyH_ready (rs := [7]) (by kernel_rfl) (by simp) (AllReadyH.cons (by simp only [List.getElem?_toArray, List.getElem?_cons_succ, List.getElem?_cons_zero]; rfl) (fun K3 hK3 => ?_) AllReadyH.nil)
    rw [if_pos (by rfl)]
    have hL : Blk W1 (w.heap.size + 1) 96 Z16 := by
      have := (Blk.new (w.alloc (.cells #[.int .u64 s] 40)).drew 96 Z16).below hB1 (by simp)
      simpa using this
    refine wp_store_row _ _ _ rfl (w.heap.size + 1) (bys (decB s bs)).toArray rfl rfl 96 Z16 hL (HI.out _ (decB_len s bs)) (by simp [bys, decB_len, Z16]) (bys_all _) ?_
    have hH3 := below_of_grown (B := w.heap.size + 1) (setRow_grown W1 (w.heap.size + 1) (bys (decB s bs)).toArray) (by omega) (by simpa using hH1.size)
    refine hK3.out _ _ (hH1.trans hH3) (fun _ => ?_)
    have hL3 : Blk (W1.setRow (w.heap.size + 1) (bys (decB s bs)).toArray) (w.heap.size + 1) 96 (bys (decB s bs)).toArray := setRow_heap _ _ _ _ _ _ hL
    have hW3 : Below w.heap.size w (W1.setRow (w.heap.size + 1) (bys (decB s bs)).toArray) := hw0.trans (below_low (hH1.trans hH3))
    generalize W1.setRow (w.heap.size + 1) (bys (decB s bs)).toArray = W3 at *
    obtain ⟨L, hLe⟩ : ∃ L, L = w.heap.size + 1 := ⟨_, rfl⟩
    have HLE := Lib.hid hLe
    rw [← hLe] at hL3 ⊢
    clear hLe
    refine wpAnyH_done (by kernel_rfl) ?_ _
    refine k1 _ _ ?_
    have hbW : Blk W3 g 5 (bys bs).toArray := hb.below hW3 hgl
    have hrd : Reads W3 1 (some ⟨L, 0, none⟩) 16 (bys (decB s bs)) := by
      have := Blk.reads hL3 1 16 0 (by simp [bys, decB_len])
      simpa [bys, decB_len, List.take_of_length_le] using this
    have HRD := Lib.hid hrd
    have HBW := Lib.hid hbW
    have HWW := Lib.hid hW3
    clear hrd hbW
    go_wp2_with (refine wpList_copy_only rfl _ _ _ _ rfl 5 Tryd.underlying23 (by kernel_rfl) (some ⟨g, 0, none⟩) (some ⟨L, 0, none⟩) 16 16 16 16 rfl rfl g 0 (bys bs) 5 HBW.out (bys (decB s bs)) HRD.out (fun _ => rfl) (by simp [bys, h]) (bys_one _) (bys (decB s bs)) (by simp [splice, bys, h, decB_len, List.take_of_length_le]) ?_; intro w9 hb9 hg9 hs9; have HB9 := Lib.hid hb9; have HG9 := Lib.hid hg9; clear hb9 hg9)
    exact ⟨rfl, .tuple #[], by kernel_rfl, rfl, HB9.out, grown_trans (grown_of_below HWW.out (Nat.le_refl _) _) HG9.out⟩
end Go.Proofs.YteecamdcfkielaaDoor.Wr
