/- Walks of the reference's functions that open a wrapped key; the conditions are on the length alone. -/
import Derived.Test.YtakfblfepgigbaaAwake
import Derived.Test.YtakfblfepgigbaaApart
import Derived.Deep.RegionWith
set_option linter.unusedVariables false
set_option linter.unusedSimpArgs false
namespace Go.Proofs.Ytakfblfepgigbaa.Wr
open Go.RowKit Go.Proofs.Ytakfblfepgigbaa.K Go.Proofs.Ytakfblfepgigbaa.Own
set_option maxHeartbeats 1000000 in
theorem PartNumber_calls (w : World) (A : Option Addr) (l : List UInt8) (n c : Nat) (h : RB w A n l) (hn : n ≤ 8) :
    Calls Try.prog 26 #[.slice A n c] w fun e w' => e = .returned (.int .u64 (num l : Nat)) ∧ w = w' := by
  have hlen := h.len
  have HL := Lib.hid hlen
  clear hlen
  go_enter Try.func26, Try.ntmps26
  go_wp2
  go_loop [3, 8] (fun v i => ∃ k x : Nat, k ≤ n ∧ i = .int .i64 k ∧ v = .int .u64 x ∧ Hid (x = num (l.take k))) (fun v i => n - (intOf i).toNat)
  case atStart => exact ⟨0, 0, Nat.zero_le _, rfl, rfl, by simp [Hid, num]⟩
  case round =>
    obtain ⟨k, x, hk, rfl, rfl, hx⟩ := hrel
    by_cases hlt : k < n
    · obtain ⟨ad, rfl, hc1⟩ := h.bt hlt
      obtain ⟨p, hp⟩ : ∃ p, p = bt l k := ⟨_, rfl⟩
      rw [← hp] at hc1
      have HP := Lib.hid hp
      clear hp
      have hpl := p.toNat_lt
      go_wp2
      go_round
      case rel =>
        have hxx := hx.out
        have hx7 : x < 256 ^ 7 := by
          rw [hxx]
          refine Nat.lt_of_lt_of_le (num_lt _) (Nat.pow_le_pow_right (by decide) ?_)
          rw [List.length_take]; omega
        refine ⟨k + 1, x * 256 + p.toNat, by omega, by go_num, by rw [or_step _ _ hx7], ?_⟩
        show _ = _
        rw [num_step l k (by rw [← HL.out]; omega), ← hxx, HP.out]
      case measure => simp [intOf]; omega
    · have hfin : x = num l := by
        rw [hx.out, List.take_of_length_le (by rw [← HL.out]; omega)]
      have HF := Lib.hid hfin
      clear hfin
      go_wp2
      go_ret
      exact ⟨congrArg (fun y : Nat => Ending.returned (.int .u64 (y : Int))) HF.out, rfl⟩
set_option maxRecDepth 100000 in
set_option maxHeartbeats 2000000 in
theorem wrapHalves_calls (w : World) (bs : List UInt8) (h : bs.length = 16) :
    Calls Try.prog 27 #[.agg (bys bs).toArray] w fun e w' => e = .returned (.tuple #[.int .u64 (num (bs.take 8) : Nat), .int .u64 (num (bs.drop 8) : Nat)]) ∧ Below w.heap.size w w' := by
  have hb0 : Blk (w.alloc (.cells (bys bs).toArray 52)) w.heap.size 52 (bys bs).toArray := Blk.new _ _ _
  have h1 : RB (w.alloc (.cells (bys bs).toArray 52)) (some ⟨w.heap.size, 0, none⟩) 8 (bs.take 8) := by
    have := (hb0.reads 1 16 0 (by simp [bys, h])).take (k := 8) (by omega)
    show Reads _ _ _ _ _
    simpa [bys, List.map_take, h, List.take_of_length_le] using this
  have h2 : RB (w.alloc (.cells (bys bs).toArray 52)) (some ⟨w.heap.size, 8, none⟩) 8 (bs.drop 8) := by
    have := hb0.reads 1 8 8 (by simp [bys, h])
    have e : (bys bs).toArray.toList.drop (8 * 1) = bys (bs.drop 8) := by simp [bys]
    rw [e, List.take_of_length_le (by simp [bys, h])] at this
    exact this
  have H1 := Lib.hid h1
  have H2 := Lib.hid h2
  have HB := Lib.hid (below_alloc' (Below.refl w.heap.size w) (.cells (bys bs).toArray 52))
  obtain ⟨W, hW⟩ : ∃ W, W = w.alloc (.cells (bys bs).toArray 52) := ⟨_, rfl⟩
  clear h1 h2 hb0
  go_enter Try.func27, Try.ntmps27
  go_wp2
  go_quiet (first
    | (go_at_call_of 26 (Value.slice (some ⟨w.heap.size, 0, none⟩) 8 16); refine (PartNumber_calls _ _ (bs.take 8) 8 16 (by exact Reads.below H1.out (below_drewN (Below.refl _ _) _) (Nat.le_refl _)) (by decide)).mono ?_; rintro e w1 ⟨rfl, rfl⟩; exact ⟨rfl, _, rfl⟩)
    | (go_at_call_of 26 (Value.slice (some ⟨w.heap.size, 8, none⟩) 8 8); refine (PartNumber_calls _ _ (bs.drop 8) 8 8 (by exact Reads.below H2.out (below_drewN (Below.refl _ _) _) (Nat.le_refl _)) (by decide)).mono ?_; rintro e w1 ⟨rfl, rfl⟩; exact ⟨rfl, _, rfl⟩))
  go_wp2
  exact bodyPost_ret (v := .tuple #[.int .u64 (num (bs.take 8) : Nat), .int .u64 (num (bs.drop 8) : Nat)]) (by kernel_rfl) rfl ⟨rfl, below_drewN HB.out _⟩
set_option maxRecDepth 100000 in
set_option maxHeartbeats 2000000 in
theorem wrapBlock_calls (w : World) (l r : Nat) (hl : l < 18446744073709551616) (hr : r < 18446744073709551616) :
    Calls Try.prog 29 #[.int .u64 l, .int .u64 r] w fun e w' => e = .returned (.agg (bys (b8 l ++ b8 r)).toArray) ∧ Below w.heap.size w w' := by
  obtain ⟨B, hBd⟩ : ∃ B, B = w.heap.size := ⟨_, rfl⟩
  go_enter Try.func29, Try.ntmps29
  go_wp2
  have HBd := Lib.hid hBd
  go_loopw [6] (fun i wr => ∃ k : Nat, k ≤ 8 ∧ i = .int .i64 k ∧ Hid (Blk wr (w.heap.size + 1) 52 (bys (fil l r k)).toArray) ∧ Hid (Blk wr w.heap.size 52 (bys (fil l r 0)).toArray) ∧ Below w.heap.size w wr) (fun i _ => 8 - (intOf i).toNat)
  case atStart =>
    refine ⟨0, by omega, rfl, ?_, ?_, below_alloc' (below_alloc' (Below.refl _ _) _) _⟩
    · have := Blk.new (w.alloc (.cells Z16 52)) 52 Z16
      rw [show (w.alloc (.cells Z16 52)).heap.size = w.heap.size + 1 from by simp] at this
      exact this
    · exact (Blk.new w 52 (bys (fil l r 0)).toArray).alloc _
  case round =>
    obtain ⟨k, hk, rfl, hb1, hb0, hB⟩ := hrel
    by_cases hlt : k < 8
    · have hf1 := hb1.out.frozen k
      have hf2 := hb1.out.frozen (8 + k)
      have hc1 : wr.cell? ⟨w.heap.size + 1, k, none⟩ = some (.int .u8 (bt (fil l r k) k).toNat) := by rw [hb1.out.cell, arr_at _ _ (by rw [fil_length]; omega)]
      have hc2 : wr.cell? ⟨w.heap.size + 1, 8 + k, none⟩ = some (.int .u8 (bt (fil l r k) (8 + k)).toNat) := by rw [hb1.out.cell, arr_at _ _ (by rw [fil_length]; omega)]
      go_wp2
      go_roundw
      case rel =>
        refine ⟨k + 1, by omega, by go_num, ?_, ?_, ?_⟩
        · have hs := (hb1.out.set_ k (.int .u8 (byte l k).toNat)).set_ (8 + k) (.int .u8 (byte r k).toNat)
          rw [fil_next l r k hlt] at hs
          have e1 : ((l : Int) / 2 ^ (56 - 8 * k) % 256) = ((byte l k).toNat : Int) := by simp [byte]
          have e2 : ((r : Int) / 2 ^ (56 - 8 * k) % 256) = ((byte r k).toNat : Int) := by simp [byte]
          rw [e1, e2]
          exact hs
        · exact (hb0.out.far (p := ⟨w.heap.size + 1, k, none⟩) (by simp) _).far (p := ⟨w.heap.size + 1, 8 + k, none⟩) (by simp) _
        · exact (hB.setCell (p := ⟨w.heap.size + 1, k, none⟩) (by simp) _).setCell (p := ⟨w.heap.size + 1, 8 + k, none⟩) (by simp) _
      case measure => simp [intOf]; omega
    · obtain rfl : k = 8 := by omega
      have hb2 := hb1.out
      rw [fil_end] at hb2
      have hb3 := Lib.hid hb2
      clear hb2
      go_wp2_with (first
        | (refine wpList_load_row rfl _ _ rfl (w.heap.size + 1) rfl 52 (bys (b8 l ++ b8 r)).toArray (0, 0) _ hb3.out Try.underlying52 rfl (by simpa [bys, b8_length] using info_arr) ?_)
        | (refine wpList_store_blk rfl _ _ _ rfl w.heap.size rfl (bys (b8 l ++ b8 r)).toArray (bys (fil l r 0)).toArray rfl 52 hb0.out (by simpa [bys, b8_length] using info_arr) (by simp [bys, b8_length, fil_length]) (bys_all _) ?_; intro w2 hb4 hg4 hs4; have hb4 := Lib.hid hb4; have hg4 := Lib.hid hg4))
      exact bodyPost_ret (results_cell_row rfl _ _ w.heap.size 52 (bys (b8 l ++ b8 r)).toArray (0, 0) _ rfl hb4.out Try.underlying52 rfl (by simpa [bys, b8_length] using info_arr)) rfl ⟨rfl, hB.trans (below_of_grown hg4.out (Nat.le_refl _) hB.size)⟩
set_option maxRecDepth 100000 in
set_option maxHeartbeats 2000000 in
theorem WrapMixedBack_calls (w : World) (s : Nat) (bs : List UInt8) (hs : s < 18446744073709551616) (h : bs.length = 16) :
    Calls Try.prog 28 #[.int .u64 s, .agg (bys bs).toArray] w fun e w' => e = .returned (.agg (bys (decB s bs)).toArray) ∧ Below w.heap.size w w' := by
  have hsz : (Try.prog.info? 52).map (·.size) = some (bys bs).toArray.size := by simpa [bys, h] using info_arr
  have HSZ := Lib.hid hsz
  have hh := wrapHalves_calls ((w.alloc (.cells (bys bs).toArray 52)).alloc (.cells Z16 52)) bs h
  have HH := Lib.hid hh
  have hpl : num (bs.take 8) < 18446744073709551616 := by
    refine Nat.lt_of_lt_of_le (num_lt _) ?_
    rw [List.length_take, h]; decide
  have hpr : num (bs.drop 8) < 18446744073709551616 := by
    refine Nat.lt_of_lt_of_le (num_lt _) ?_
    rw [List.length_drop, h]; decide
  obtain ⟨p, hp⟩ : ∃ p : Nat × Nat, p = (num (bs.take 8), num (bs.drop 8)) := ⟨_, rfl⟩
  have HP := Lib.hid hp
  have hlt := fun i => decK_lt s p (by rw [hp]; exact hpl) (by rw [hp]; exact hpr) i
  have HLT := Lib.hid hlt
  clear hsz hh hp h hpl hpr hlt
  have hb0 := Lib.hid (Blk.new w 52 (bys bs).toArray)
  have hb1 := Lib.hid ((Blk.new w 52 (bys bs).toArray).alloc (.cells Z16 52))
  have hb2 : Blk ((w.alloc (.cells (bys bs).toArray 52)).alloc (.cells Z16 52)) (w.heap.size + 1) 52 Z16 := by
    have := Blk.new (w.alloc (.cells (bys bs).toArray 52)) 52 Z16
    rwa [show (w.alloc (.cells (bys bs).toArray 52)).heap.size = w.heap.size + 1 from by simp] at this
  have hb2 := Lib.hid hb2
  go_enter Try.func28, Try.ntmps28
  go_wp2_with (refine wpList_load_row rfl _ _ rfl w.heap.size rfl 52 (bys bs).toArray (0, 0) _ hb1.out Try.underlying52 rfl HSZ.out ?_)
  refine HH.out.mono ?_
  rintro e w1 ⟨rfl, hB1⟩
  go_wp2
  have hB2 : Below w.heap.size w w1 := below_then (below_alloc' (below_alloc' (Below.refl _ _) _) _) hB1
  have hb4 : Blk w1 (w.heap.size + 1) 52 Z16 := hb2.out.below hB1 (by simp)
  go_loopw [5, 6, 7] (fun l r i wr => ∃ k j x y : Nat, k ≤ 4 ∧ Hid (j + k = 4) ∧ i = .int .u64 (j : Nat) ∧ j ≤ 5 ∧ l = .int .u64 (x : Nat) ∧ r = .int .u64 (y : Nat) ∧ Hid ((x, y) = decK s k p) ∧ Hid (Blk wr (w.heap.size + 1) 52 Z16) ∧ Below w.heap.size w wr) (fun _ _ i _ => (intOf i).toNat)
  case atStart => exact ⟨0, 4, _, _, by omega, rfl, rfl, by omega, rfl, rfl, HP.out.symm, hb4, hB2⟩
  case round =>
    clear hb4 hB2 hB1
    obtain ⟨k, j, x, y, hk, hj, rfl, hj5, rfl, rfl, hxy, hb5, hB5⟩ := hrel
    have hx : x < 18446744073709551616 := by have := HLT.out k; rw [← hxy.out] at this; exact this.1
    have hy : y < 18446744073709551616 := by have := HLT.out k; rw [← hxy.out] at this; exact this.2
    by_cases hlt : k < 4
    · have hkw := key_wrap s j
      have hkl := key_lt s j
      obtain ⟨q, hq⟩ : ∃ q, q = mh x (key s j) := ⟨_, rfl⟩
      have hql : q < 18446744073709551616 := by rw [hq]; exact mh_lt _ _
      have hmc := wrapHalf_calls wr x (key s j) (by omega) hkl
      rw [← hq] at hmc
      have HMC := Lib.hid hmc
      have hxx := u64_xor_nat y q (by omega) hql
      have HQ := Lib.hid hq
      have hj1 : 1 ≤ j ∧ j ≤ 4 := by have := hj.out; omega
      clear hmc hq
      go_wp2_with (go_at_call 39; refine HMC.out.mono ?_; rintro e w2 ⟨rfl, rfl⟩)
      go_roundw
      case rel =>
        refine ⟨k + 1, j - 1, y ^^^ q, x, by omega, by have := hj.out; show _ = _; omega, by go_num, by omega, by go_num, by go_num, ?_, hb5, hB5⟩
        show _ = _
        (rw [decK, ← hxy.out, HQ.out, show j = 4 - k from by have := hj.out; omega]; rfl)
      case measure => have := hj.out; simp [intOf]; omega
    · obtain rfl : k = 4 := by omega
      have hj0 : j = 0 := by have := hj.out; omega
      subst hj0
      have hmb := Lib.hid (wrapBlock_calls wr x y hx hy)
      have hres : b8 x ++ b8 y = decB s bs := by
        unfold decB
        rw [← HP.out]
        show _ = b8 (dec s p).1 ++ b8 (dec s p).2
        rw [show dec s p = decK s 4 p from rfl, ← hxy.out]
      rw [hres] at hmb
      have hres2 := Lib.hid hres
      clear hres
      have hlen : (decB s bs).length = 16 := by rw [← hres2.out]; simp [b8_length]
      have hsz2 : (Try.prog.info? 52).map (·.size) = some (bys (decB s bs)).toArray.size := by simpa [bys, hlen] using info_arr
      have hzz : Z16.size = (bys (decB s bs)).toArray.size := by simp [bys, hlen, Z16]
      have hsz3 := Lib.hid hsz2
      have hzz2 := Lib.hid hzz
      clear hsz2 hzz hlen
      go_wp2_with (first
        | (go_at_call 29; refine hmb.out.mono ?_; rintro e w2 ⟨rfl, hb6⟩; have hb7 := Lib.hid (hb5.out.below hb6 (hb5.out.lt)))
        | (refine wpList_store_blk rfl _ _ _ rfl (w.heap.size + 1) rfl (bys (decB s bs)).toArray Z16 rfl 52 hb7.out hsz3.out hzz2.out (bys_all _) ?_; intro w3 hb8 hg8 hs8; have hb8 := Lib.hid hb8; have hg8 := Lib.hid hg8))
      exact bodyPost_ret (results_cell_row rfl _ _ (w.heap.size + 1) 52 (bys (decB s bs)).toArray (0, 0) _ rfl hb8.out Try.underlying52 rfl hsz3.out) rfl ⟨rfl, (below_then hB5 hb6).trans (below_of_grown hg8.out (by omega) (below_then hB5 hb6).size)⟩
theorem wrapFirst_calls (w : World) : Calls Try.prog 31 #[] w fun e w' => e = .returned (.int .u64 12008468691120727718) ∧ w = w' := by
  go_enter Try.func31, Try.ntmps31
  go_wp2
  go_ret
  exact ⟨rfl, rfl⟩
end Go.Proofs.Ytakfblfepgigbaa.Wr
