/- Walks of impl.Mixed and MixedBack; no condition. -/
import Derived.Test.YteecamdcfkielaaDoorMix
set_option linter.unusedVariables false
set_option linter.unusedSimpArgs false
namespace Go.Proofs.YteecamdcfkielaaDoor.Wr
open Go.RowKit Go.Proofs.YteecamdcfkielaaDoor.K Go.Proofs.YteecamdcfkielaaDoor.Own
def encB (s : Nat) (bs : List UInt8) : List UInt8 := b8 (enc s (num (bs.take 8), num (bs.drop 8))).1 ++ b8 (enc s (num (bs.take 8), num (bs.drop 8))).2
def decB (s : Nat) (bs : List UInt8) : List UInt8 := b8 (dec s (num (bs.take 8), num (bs.drop 8))).1 ++ b8 (dec s (num (bs.take 8), num (bs.drop 8))).2
theorem zeros16 : Z16 = (bys (List.replicate 16 0)).toArray := by rfl
def decK (s : Nat) (i : Nat) (p : Nat × Nat) : Nat × Nat := match i with
  | 0 => p
  | i + 1 => dec1 s (4 - i) (decK s i p)
theorem decK_lt (s : Nat) (p : Nat × Nat) (h1 : p.1 < 18446744073709551616) (h2 : p.2 < 18446744073709551616) : ∀ i, (decK s i p).1 < 18446744073709551616 ∧ (decK s i p).2 < 18446744073709551616
  | 0 => ⟨h1, h2⟩
  | i + 1 => dec1_lt s (4 - i) _ (decK_lt s p h1 h2 i).1 (decK_lt s p h1 h2 i).2
theorem key_wrap (s i : Nat) : IntKind.u64.wrap ((s : Int) + (i : Int)) = (key s i : Nat) := by
  rw [← Int.natCast_add, wrapN_mod]; rfl
set_option maxRecDepth 100000 in
set_option maxHeartbeats 2000000 in
theorem Mixed_calls (w : World) (s : Nat) (bs : List UInt8) (hs : s < 18446744073709551616) (h : bs.length = 16) :
    Calls Tryd.prog 52 #[.int .u64 s, .agg (bys bs).toArray] w fun e w' => e = .returned (.agg (bys (encB s bs)).toArray) ∧ Below w.heap.size w w' := by
  have hsz : (Tryd.prog.info? 96).map (·.size) = some (bys bs).toArray.size := by simpa [bys, h] using info_arr
  have HSZ := Lib.hid hsz
  have hh := mixedHalves_calls ((w.alloc (.cells (bys bs).toArray 96)).alloc (.cells Z16 96)) bs h
  have HH := Lib.hid hh
  have hpl : num (bs.take 8) < 18446744073709551616 := by
    refine Nat.lt_of_lt_of_le (num_lt _) ?_
    rw [List.length_take, h]; decide
  have hpr : num (bs.drop 8) < 18446744073709551616 := by
    refine Nat.lt_of_lt_of_le (num_lt _) ?_
    rw [List.length_drop, h]; decide
  obtain ⟨p, hp⟩ : ∃ p : Nat × Nat, p = (num (bs.take 8), num (bs.drop 8)) := ⟨_, rfl⟩
  have HP := Lib.hid hp
  have hlt := fun i => encK_lt s p (by rw [hp]; exact hpl) (by rw [hp]; exact hpr) i
  have HLT := Lib.hid hlt
  clear hsz hh hp h hpl hpr hlt
  have hb0 := Lib.hid (Blk.new w 96 (bys bs).toArray)
  have hb1 := Lib.hid ((Blk.new w 96 (bys bs).toArray).alloc (.cells Z16 96))
  have hb2 : Blk ((w.alloc (.cells (bys bs).toArray 96)).alloc (.cells Z16 96)) (w.heap.size + 1) 96 Z16 := by
    have := Blk.new (w.alloc (.cells (bys bs).toArray 96)) 96 Z16
    rwa [show (w.alloc (.cells (bys bs).toArray 96)).heap.size = w.heap.size + 1 from by simp] at this
  have hb2 := Lib.hid hb2
  go_enter Tryd.func52, Tryd.ntmps52
  go_wp2_with (refine wpList_load_row rfl _ _ rfl w.heap.size rfl 96 (bys bs).toArray (0, 0) _ hb1.out Tryd.underlying96 rfl HSZ.out ?_)
  refine HH.out.mono ?_
  rintro e w1 ⟨rfl, hB1⟩
  go_wp2
  have hB2 : Below w.heap.size w w1 := below_then (below_alloc' (below_alloc' (Below.refl _ _) _) _) hB1
  have hb4 : Blk w1 (w.heap.size + 1) 96 Z16 := hb2.out.below hB1 (by simp)
  go_loopw [5, 6, 7] (fun l r i wr => ∃ k j x y : Nat, k ≤ 4 ∧ Hid (j = k + 1) ∧ i = .int .u64 (j : Nat) ∧ j ≤ 5 ∧ l = .int .u64 (x : Nat) ∧ r = .int .u64 (y : Nat) ∧ Hid ((x, y) = encK s k p) ∧ Hid (Blk wr (w.heap.size + 1) 96 Z16) ∧ Below w.heap.size w wr) (fun _ _ i _ => 5 - (intOf i).toNat)
  case atStart => exact ⟨0, 1, _, _, by omega, rfl, rfl, by omega, rfl, rfl, HP.out.symm, hb4, hB2⟩
  case round =>
    clear hb4 hB2 hB1
    obtain ⟨k, j, x, y, hk, hj, rfl, hj5, rfl, rfl, hxy, hb5, hB5⟩ := hrel
    have hx : x < 18446744073709551616 := by have := HLT.out k; rw [← hxy.out] at this; exact this.1
    have hy : y < 18446744073709551616 := by have := HLT.out k; rw [← hxy.out] at this; exact this.2
    by_cases hlt : k < 4
    · have hkw := key_wrap s j
      have hkl := key_lt s j
      obtain ⟨q, hq⟩ : ∃ q, q = mh y (key s j) := ⟨_, rfl⟩
      have hql : q < 18446744073709551616 := by rw [hq]; exact mh_lt _ _
      have hmc := mixedHalf_calls wr y (key s j) (by omega) hkl
      rw [← hq] at hmc
      have HMC := Lib.hid hmc
      have hxx := u64_xor_nat x q (by omega) hql
      have HQ := Lib.hid hq
      have hj1 : 1 ≤ j ∧ j ≤ 4 := by have := hj.out; omega
      clear hmc hq
      go_wp2_with (go_at_call 54; refine HMC.out.mono ?_; rintro e w2 ⟨rfl, rfl⟩)
      go_roundw
      case rel =>
        refine ⟨k + 1, j + 1, y, x ^^^ q, by omega, by have := hj.out; show _ = _; omega, by go_num, by omega, by go_num, by go_num, ?_, hb5, hB5⟩
        show _ = _
        (rw [encK, ← hxy.out, HQ.out, hj.out])
      case measure => have := hj.out; simp [intOf]; omega
    · obtain rfl : k = 4 := by omega
      have hj0 : j = 5 := by have := hj.out; omega
      subst hj0
      have hmb := Lib.hid (mixedBlock_calls wr x y hx hy)
      have hres : b8 x ++ b8 y = encB s bs := by
        unfold encB
        rw [← HP.out]
        show _ = b8 (enc s p).1 ++ b8 (enc s p).2
        rw [show enc s p = encK s 4 p from rfl, ← hxy.out]
      rw [hres] at hmb
      have hres2 := Lib.hid hres
      clear hres
      have hlen : (encB s bs).length = 16 := by rw [← hres2.out]; simp [b8_length]
      have hsz2 : (Tryd.prog.info? 96).map (·.size) = some (bys (encB s bs)).toArray.size := by simpa [bys, hlen] using info_arr
      have hzz : Z16.size = (bys (encB s bs)).toArray.size := by simp [bys, hlen, Z16]
      have hsz3 := Lib.hid hsz2
      have hzz2 := Lib.hid hzz
      clear hsz2 hzz hlen
      go_wp2_with (first
        | (go_at_call 55; refine hmb.out.mono ?_; rintro e w2 ⟨rfl, hb6⟩; have hb7 := Lib.hid (hb5.out.below hb6 (hb5.out.lt)))
        | (refine wpList_store_blk rfl _ _ _ rfl (w.heap.size + 1) rfl (bys (encB s bs)).toArray Z16 rfl 96 hb7.out hsz3.out hzz2.out (bys_all _) ?_; intro w3 hb8 hg8 hs8; have hb8 := Lib.hid hb8; have hg8 := Lib.hid hg8))
      exact bodyPost_ret (results_cell_row rfl _ _ (w.heap.size + 1) 96 (bys (encB s bs)).toArray (0, 0) _ rfl hb8.out Tryd.underlying96 rfl hsz3.out) rfl ⟨rfl, (below_then hB5 hb6).trans (below_of_grown hg8.out (by omega) (below_then hB5 hb6).size)⟩
set_option maxRecDepth 100000 in
set_option maxHeartbeats 2000000 in
theorem MixedBack_calls (w : World) (s : Nat) (bs : List UInt8) (hs : s < 18446744073709551616) (h : bs.length = 16) :
    Calls Tryd.prog 51 #[.int .u64 s, .agg (bys bs).toArray] w fun e w' => e = .returned (.agg (bys (decB s bs)).toArray) ∧ Below w.heap.size w w' := by
  have hsz : (Tryd.prog.info? 96).map (·.size) = some (bys bs).toArray.size := by simpa [bys, h] using info_arr
  have HSZ := Lib.hid hsz
  have hh := mixedHalves_calls ((w.alloc (.cells (bys bs).toArray 96)).alloc (.cells Z16 96)) bs h
  have HH := Lib.hid hh
  have hpl : num (bs.take 8) < 18446744073709551616 := by
    refine Nat.lt_of_lt_of_le (num_lt _) ?_
    rw [List.length_take, h]; decide
  have hpr : num (bs.drop 8) < 18446744073709551616 := by
    refine Nat.lt_of_lt_of_le (num_lt _) ?_
    rw [List.length_drop, h]; decide
  obtain ⟨p, hp⟩ : ∃ p : Nat × Nat, p = (num (bs.take 8), num (bs.drop 8)) := ⟨_, rfl⟩
  have HP := Lib.hid hp
  have hlt := fun i => decK_lt s p (by rw [hp]; exact hpl) (by rw [hp]; exact hpr) i
  have HLT := Lib.hid hlt
  clear hsz hh hp h hpl hpr hlt
  have hb0 := Lib.hid (Blk.new w 96 (bys bs).toArray)
  have hb1 := Lib.hid ((Blk.new w 96 (bys bs).toArray).alloc (.cells Z16 96))
  have hb2 : Blk ((w.alloc (.cells (bys bs).toArray 96)).alloc (.cells Z16 96)) (w.heap.size + 1) 96 Z16 := by
    have := Blk.new (w.alloc (.cells (bys bs).toArray 96)) 96 Z16
    rwa [show (w.alloc (.cells (bys bs).toArray 96)).heap.size = w.heap.size + 1 from by simp] at this
  have hb2 := Lib.hid hb2
  go_enter Tryd.func51, Tryd.ntmps51
  go_wp2_with (refine wpList_load_row rfl _ _ rfl w.heap.size rfl 96 (bys bs).toArray (0, 0) _ hb1.out Tryd.underlying96 rfl HSZ.out ?_)
  refine HH.out.mono ?_
  rintro e w1 ⟨rfl, hB1⟩
  go_wp2
  have hB2 : Below w.heap.size w w1 := below_then (below_alloc' (below_alloc' (Below.refl _ _) _) _) hB1
  have hb4 : Blk w1 (w.heap.size + 1) 96 Z16 := hb2.out.below hB1 (by simp)
  go_loopw [5, 6, 7] (fun l r i wr => ∃ k j x y : Nat, k ≤ 4 ∧ Hid (j + k = 4) ∧ i = .int .u64 (j : Nat) ∧ j ≤ 5 ∧ l = .int .u64 (x : Nat) ∧ r = .int .u64 (y : Nat) ∧ Hid ((x, y) = decK s k p) ∧ Hid (Blk wr (w.heap.size + 1) 96 Z16) ∧ Below w.heap.size w wr) (fun _ _ i _ => (intOf i).toNat)
  case atStart => exact ⟨0, 4, _, _, by omega, rfl, rfl, by omega, rfl, rfl, HP.out.symm, hb4, hB2⟩
  case round =>
    clear hb4 hB2 hB1
    obtain ⟨k, j, x, y, hk, hj, rfl, hj5, rfl, rfl, hxy, hb5, hB5⟩ := hrel
    have hx : x < 18446744073709551616 := by have := HLT.out k; rw [← hxy.out] at this; exact this.1
    have hy : y < 18446744073709551616 := by have := HLT.out k; rw [← hxy.out] at this; exact this.2
    by_cases hlt : k < 4
    · have hkw := key_wrap s j
      have hkl := key_lt s j
      obtain ⟨q, hq⟩ : ∃ q, q = mh x (key s j) := ⟨_, rfl⟩
      have hql : q < 18446744073709551616 := by rw [hq]; exact mh_lt _ _
      have hmc := mixedHalf_calls wr x (key s j) (by omega) hkl
      rw [← hq] at hmc
      have HMC := Lib.hid hmc
      have hxx := u64_xor_nat y q (by omega) hql
      have HQ := Lib.hid hq
      have hj1 : 1 ≤ j ∧ j ≤ 4 := by have := hj.out; omega
      clear hmc hq
      go_wp2_with (go_at_call 54; refine HMC.out.mono ?_; rintro e w2 ⟨rfl, rfl⟩)
      go_roundw
      case rel =>
        refine ⟨k + 1, j - 1, y ^^^ q, x, by omega, by have := hj.out; show _ = _; omega, by go_num, by omega, by go_num, by go_num, ?_, hb5, hB5⟩
        show _ = _
        (rw [decK, ← hxy.out, HQ.out, show j = 4 - k from by have := hj.out; omega]; rfl)
      case measure => have := hj.out; simp [intOf]; omega
    · obtain rfl : k = 4 := by omega
      have hj0 : j = 0 := by have := hj.out; omega
      subst hj0
      have hmb := Lib.hid (mixedBlock_calls wr x y hx hy)
      have hres : b8 x ++ b8 y = decB s bs := by
        unfold decB
        rw [← HP.out]
        show _ = b8 (dec s p).1 ++ b8 (dec s p).2
        rw [show dec s p = decK s 4 p from rfl, ← hxy.out]
      rw [hres] at hmb
      have hres2 := Lib.hid hres
      clear hres
      have hlen : (decB s bs).length = 16 := by rw [← hres2.out]; simp [b8_length]
      have hsz2 : (Tryd.prog.info? 96).map (·.size) = some (bys (decB s bs)).toArray.size := by simpa [bys, hlen] using info_arr
      have hzz : Z16.size = (bys (decB s bs)).toArray.size := by simp [bys, hlen, Z16]
      have hsz3 := Lib.hid hsz2
      have hzz2 := Lib.hid hzz
      clear hsz2 hzz hlen
      go_wp2_with (first
        | (go_at_call 55; refine hmb.out.mono ?_; rintro e w2 ⟨rfl, hb6⟩; have hb7 := Lib.hid (hb5.out.below hb6 (hb5.out.lt)))
        | (refine wpList_store_blk rfl _ _ _ rfl (w.heap.size + 1) rfl (bys (decB s bs)).toArray Z16 rfl 96 hb7.out hsz3.out hzz2.out (bys_all _) ?_; intro w3 hb8 hg8 hs8; have hb8 := Lib.hid hb8; have hg8 := Lib.hid hg8))
      exact bodyPost_ret (results_cell_row rfl _ _ (w.heap.size + 1) 96 (bys (decB s bs)).toArray (0, 0) _ rfl hb8.out Tryd.underlying96 rfl hsz3.out) rfl ⟨rfl, (below_then hB5 hb6).trans (below_of_grown hg8.out (by omega) (below_then hB5 hb6).size)⟩
end Go.Proofs.YteecamdcfkielaaDoor.Wr
