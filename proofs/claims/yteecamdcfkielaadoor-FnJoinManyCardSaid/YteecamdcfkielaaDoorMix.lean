/- Walks of the block cipher (impl.Mixed, MixedBack and what they call); no condition. -/
import Derived.Test.YteecamdcfkielaaDoorOwn
import Derived.Test.YteecamdcfkielaaDoorWrapFns
import Derived.RegionTactic
import Derived.StillTailTactics
set_option linter.unusedVariables false
set_option linter.unusedSimpArgs false
namespace Go.Proofs.YteecamdcfkielaaDoor.Wr
open Go.RowKit Go.Proofs.YteecamdcfkielaaDoor.K Go.Proofs.YteecamdcfkielaaDoor.Own
theorem wrapN_mod (n : Nat) : IntKind.u64.wrap (n : Int) = ((n % 18446744073709551616 : Nat) : Int) := by
  have hw : IntKind.u64.wrap (n : Int) = (n : Int) % 18446744073709551616 := by simp [IntKind.wrap, IntKind.bits, IntKind.signed]
  rw [hw]; omega
set_option maxRecDepth 100000 in
set_option maxHeartbeats 1000000 in
theorem mixedHalf_calls (w : World) (x k : Nat) (hx : x < 18446744073709551616) (hk : k < 18446744073709551616) :
    Calls Tryd.prog 54 #[.int .u64 x, .int .u64 k] w fun e w' => e = .returned (.int .u64 (mh x k : Nat)) ∧ w = w' := by
    obtain ⟨y1, h1⟩ : ∃ y, y = mh1 x k := ⟨_, rfl⟩
    obtain ⟨y2, h2⟩ : ∃ y, y = mh2 y1 := ⟨_, rfl⟩
    obtain ⟨y3, h3⟩ : ∃ y, y = mh3 y2 := ⟨_, rfl⟩
    obtain ⟨y4, h4⟩ : ∃ y, y = mh4 y3 := ⟨_, rfl⟩
    have b1 : y1 < 18446744073709551616 := by rw [h1]; exact mh1_lt x k
    have b3 : y3 < 18446744073709551616 := by rw [h3]; exact mh3_lt y2
    have e1 : IntKind.u64.wrap (bits .xor .u64 (x : Int) (k : Int) * 11400714819323198485) = (y1 : Int) := by
      rw [u64_xor_nat _ _ hx hk, show ((x ^^^ k : Nat) : Int) * 11400714819323198485 = (((x ^^^ k) * 11400714819323198485 : Nat) : Int) from by rw [Int.natCast_mul]; rfl, wrapN_mod, h1]; rfl
    have e2 : bits .xor .u64 (y1 : Int) ((y1 : Int) / 536870912) = (y2 : Int) := by
      rw [show (y1 : Int) / 536870912 = ((y1 / 536870912 : Nat) : Int) from by omega, u64_xor_nat _ _ b1 (by omega), h2]; rfl
    have e3 : IntKind.u64.wrap ((y2 : Int) * 13787848793156543929) = (y3 : Int) := by
      rw [show (y2 : Int) * 13787848793156543929 = ((y2 * 13787848793156543929 : Nat) : Int) from by rw [Int.natCast_mul]; rfl, wrapN_mod, h3]; rfl
    have e4 : bits .xor .u64 (y3 : Int) ((y3 : Int) / 4294967296) = (y4 : Int) := by
      rw [show (y3 : Int) / 4294967296 = ((y3 / 4294967296 : Nat) : Int) from by omega, u64_xor_nat _ _ b3 (by omega), h4]; rfl
    have hfin : y4 = mh x k := by rw [h4, h3, h2, h1]; rfl
    have HF := Lib.hid hfin
    clear h1 h2 h3 h4 hfin hx hk b1 b3
    go_enter Tryd.func54, Tryd.ntmps54
    go_wp2
    go_ret
    exact ⟨ret_int (by rw [← HF.out]), rfl⟩
theorem ret_u64s {a b x y : Nat} (h : a = b) (h' : x = y) : Ending.returned (.tuple #[.int .u64 (a : Nat), .int .u64 (x : Nat)]) = .returned (.tuple #[.int .u64 (b : Nat), .int .u64 (y : Nat)]) := by rw [h, h']
theorem or_step (x : Nat) (p : UInt8) (h : x < 256 ^ 7) : bits .or .u64 (IntKind.u64.wrap ((x : Int) * 256)) (p.toNat : Int) = ((x * 256 + p.toNat : Nat) : Int) := by
  have hp := p.toNat_lt
  have e : (x : Int) * 256 = ((x * 256 : Nat) : Int) := by rw [Int.natCast_mul]; rfl
  have h2 : x * 256 < 18446744073709551616 := by omega
  rw [e, wrapN_mod, Nat.mod_eq_of_lt h2, u64_or_nat _ _ h2 (by omega), nat_join 8 _ _ (by omega) (by omega)]
theorem arr_at (l : List UInt8) (k : Nat) (h : k < l.length) : (bys l).toArray[k]? = some (.int .u8 (bt l k).toNat) := by
  rw [List.getElem?_toArray, bys_get l k h, bt_get l k h]
theorem num_step (l : List UInt8) (k : Nat) (h : k < l.length) : num (l.take (k + 1)) = num (l.take k) * 256 + (bt l k).toNat := by
  rw [List.take_succ_eq_append_getElem h, num_snoc, bt_get l k h]
set_option maxRecDepth 100000 in
set_option maxHeartbeats 2000000 in
theorem mixedHalves_calls (w : World) (bs : List UInt8) (h : bs.length = 16) :
    Calls Tryd.prog 53 #[.agg (bys bs).toArray] w fun e w' => e = .returned (.tuple #[.int .u64 (num (bs.take 8) : Nat), .int .u64 (num (bs.drop 8) : Nat)]) ∧ Below w.heap.size w w' := by
  have H := Lib.hid h
  clear h
  go_enter Tryd.func53, Tryd.ntmps53
  go_wp2
  go_loopw [2, 3, 4] (fun l r i wr => ∃ k x y : Nat, k ≤ 8 ∧ i = .int .i64 k ∧ l = .int .u64 x ∧ r = .int .u64 y ∧ Hid (x = num (bs.take k)) ∧ Hid (y = num ((bs.drop 8).take k)) ∧ Hid (Blk wr w.heap.size 96 (bys bs).toArray) ∧ Below w.heap.size w wr) (fun _ _ i _ => 8 - (intOf i).toNat)
  case atStart => exact ⟨0, 0, 0, by omega, rfl, rfl, rfl, by simp [Hid, num], by simp [Hid, num], Blk.new _ _ _, below_alloc' (Below.refl _ _) _⟩
  case round =>
    obtain ⟨k, x, y, hk, rfl, rfl, rfl, hx, hy, hb, hB⟩ := hrel
    by_cases hlt : k < 8
    · have hc1 : wr.cell? ⟨w.heap.size, k, none⟩ = some (.int .u8 (bt bs k).toNat) := by rw [hb.out.cell, arr_at _ _ (by have := H.out; omega)]
      have hc2 : wr.cell? ⟨w.heap.size, 8 + k, none⟩ = some (.int .u8 (bt bs (8 + k)).toNat) := by rw [hb.out.cell, arr_at _ _ (by have := H.out; omega)]
      obtain ⟨p, hp⟩ : ∃ p, p = bt bs k := ⟨_, rfl⟩
      obtain ⟨q, hq⟩ : ∃ q, q = bt bs (8 + k) := ⟨_, rfl⟩
      rw [← hp] at hc1
      rw [← hq] at hc2
      have HP := Lib.hid hp
      have HQ := Lib.hid hq
      clear hp hq
      have hpl := p.toNat_lt
      have hql := q.toNat_lt
      go_wp2
      go_quiet (fail)
      go_wp2
      go_roundw
      case rel =>
        have hl := H.out
        have hxx := hx.out
        have hyy := hy.out
        have hx7 : x < 256 ^ 7 := by
          rw [hxx]
          refine Nat.lt_of_lt_of_le (num_lt _) (Nat.pow_le_pow_right (by decide) ?_)
          rw [List.length_take]; omega
        have hy7 : y < 256 ^ 7 := by
          rw [hyy]
          refine Nat.lt_of_lt_of_le (num_lt _) (Nat.pow_le_pow_right (by decide) ?_)
          rw [List.length_take]; omega
        refine ⟨k + 1, x * 256 + p.toNat, y * 256 + q.toNat, by omega, by go_num, by rw [or_step _ _ hx7], by rw [or_step _ _ hy7], ?_, ?_, hb, below_drewN hB _⟩
        · show _ = _
          rw [num_step bs k (by omega), ← hxx, HP.out]
        · show _ = _
          rw [num_step (bs.drop 8) k (by rw [List.length_drop]; omega), ← hyy, HQ.out]
          congr 2
          simp [bt]
      case measure => simp [intOf]; omega
    · obtain rfl : k = 8 := by omega
      go_wp2
      go_ret2
      have h8 : (bs.drop 8).take 8 = bs.drop 8 := List.take_of_length_le (by rw [List.length_drop]; have := H.out; omega)
      have hyy := hy.out
      rw [h8] at hyy
      exact ⟨ret_u64s hx.out hyy, hB⟩
/-- The block behind k rounds of filling. -/
def fil (l r k : Nat) : List UInt8 := ((List.range 8).map fun i => if i < k then byte l i else 0) ++ ((List.range 8).map fun i => if i < k then byte r i else 0)
theorem fil_length (l r k : Nat) : (fil l r k).length = 16 := by simp [fil]
theorem fil_end (l r : Nat) : fil l r 8 = b8 l ++ b8 r := by
  unfold fil b8
  congr 1 <;> (apply List.map_congr_left; intro i hi; rw [if_pos (by simpa using hi)])
theorem fil_start (l r : Nat) : bys (fil l r 0) = List.replicate 16 (.int .u8 0) := by rfl
theorem fil_next (l r k : Nat) (h : k < 8) : ((bys (fil l r k)).toArray.setIfInBounds k (.int .u8 (byte l k).toNat)).setIfInBounds (8 + k) (.int .u8 (byte r k).toNat) = (bys (fil l r (k + 1))).toArray := by
  have : ∀ k : Fin 8, ((bys (fil l r k.1)).toArray.setIfInBounds k.1 (.int .u8 (byte l k.1).toNat)).setIfInBounds (8 + k.1) (.int .u8 (byte r k.1).toNat) = (bys (fil l r (k.1 + 1))).toArray := by
    intro k
    match k with
    | ⟨0, _⟩ => rfl
    | ⟨1, _⟩ => rfl
    | ⟨2, _⟩ => rfl
    | ⟨3, _⟩ => rfl
    | ⟨4, _⟩ => rfl
    | ⟨5, _⟩ => rfl
    | ⟨6, _⟩ => rfl
    | ⟨7, _⟩ => rfl
  exact this ⟨k, h⟩
theorem info_arr : (Tryd.prog.info? 96).map (·.size) = some 16 := by kernel_rfl
theorem bys_all (l : List UInt8) : (bys l).toArray.all (·.oneCell') = true := by
  rw [List.all_toArray, List.all_eq_true]
  exact bys_one l
def Z16 : Array Value := #[.int .u8 0, .int .u8 0, .int .u8 0, .int .u8 0, .int .u8 0, .int .u8 0, .int .u8 0, .int .u8 0, .int .u8 0, .int .u8 0, .int .u8 0, .int .u8 0, .int .u8 0, .int .u8 0, .int .u8 0, .int .u8 0]
set_option maxRecDepth 100000 in
set_option maxHeartbeats 2000000 in
theorem mixedBlock_calls (w : World) (l r : Nat) (hl : l < 18446744073709551616) (hr : r < 18446744073709551616) :
    Calls Tryd.prog 55 #[.int .u64 l, .int .u64 r] w fun e w' => e = .returned (.agg (bys (b8 l ++ b8 r)).toArray) ∧ Below w.heap.size w w' := by
    obtain ⟨B, hBd⟩ : ∃ B, B = w.heap.size := ⟨_, rfl⟩
    go_enter Tryd.func55, Tryd.ntmps55
    go_wp2
    have HBd := Lib.hid hBd
    go_loopw [6] (fun i wr => ∃ k : Nat, k ≤ 8 ∧ i = .int .i64 k ∧ Hid (Blk wr (w.heap.size + 1) 96 (bys (fil l r k)).toArray) ∧ Hid (Blk wr w.heap.size 96 (bys (fil l r 0)).toArray) ∧ Below w.heap.size w wr) (fun i _ => 8 - (intOf i).toNat)
    case atStart =>
      refine ⟨0, by omega, rfl, ?_, ?_, below_alloc' (below_alloc' (Below.refl _ _) _) _⟩
      · have := Blk.new (w.alloc (.cells Z16 96)) 96 Z16
        rw [show (w.alloc (.cells Z16 96)).heap.size = w.heap.size + 1 from by simp] at this
        exact this
      · exact (Blk.new w 96 (bys (fil l r 0)).toArray).alloc _
    case round =>
      obtain ⟨k, hk, rfl, hb1, hb0, hB⟩ := hrel
      by_cases hlt : k < 8
      · have hf1 := hb1.out.frozen k
        have hf2 := hb1.out.frozen (8 + k)
        have hc1 : wr.cell? ⟨w.heap.size + 1, k, none⟩ = some (.int .u8 (bt (fil l r k) k).toNat) := by rw [hb1.out.cell, arr_at _ _ (by rw [fil_length]; omega)]
        have hc2 : wr.cell? ⟨w.heap.size + 1, 8 + k, none⟩ = some (.int .u8 (bt (fil l r k) (8 + k)).toNat) := by rw [hb1.out.cell, arr_at _ _ (by rw [fil_length]; omega)]
        go_wp2
        go_region
        go_wp2
        go_roundw
        case rel =>
          refine ⟨k + 1, by omega, by go_num, ?_, ?_, ?_⟩
          · have hs := (hb1.out.set_ k (.int .u8 (byte l k).toNat)).set_ (8 + k) (.int .u8 (byte r k).toNat)
            rw [fil_next l r k hlt] at hs
            have e1 : ((l : Int) / 2 ^ (56 - 8 * k) % 256) = ((byte l k).toNat : Int) := by simp [byte]
            have e2 : ((r : Int) / 2 ^ (56 - 8 * k) % 256) = ((byte r k).toNat : Int) := by simp [byte]
            rw [e1, e2]
            exact hs
          · exact (hb0.out.far (by simp) _).far (by simp) _
          · exact ((hB.setCell (by simp) _).setCell (by simp) _).drew
        case measure => simp [intOf]; omega
      · obtain rfl : k = 8 := by omega
        have hb2 := hb1.out
        rw [fil_end] at hb2
        have hb3 := Lib.hid hb2
        clear hb2
        go_wp2_with (first
          | (refine wpList_load_row rfl _ _ rfl (w.heap.size + 1) rfl 96 (bys (b8 l ++ b8 r)).toArray (0, 0) _ hb3.out Tryd.underlying96 rfl (by simpa [bys, b8_length] using info_arr) ?_)
          | (refine wpList_store_blk rfl _ _ _ rfl w.heap.size rfl (bys (b8 l ++ b8 r)).toArray (bys (fil l r 0)).toArray rfl 96 hb0.out (by simpa [bys, b8_length] using info_arr) (by simp [bys, b8_length, fil_length]) (bys_all _) ?_; intro w2 hb4 hg4 hs4; have hb4 := Lib.hid hb4; have hg4 := Lib.hid hg4))
        exact bodyPost_ret (results_cell_row rfl _ _ w.heap.size 96 (bys (b8 l ++ b8 r)).toArray (0, 0) _ rfl hb4.out Tryd.underlying96 rfl (by simpa [bys, b8_length] using info_arr)) rfl ⟨rfl, hB.trans (below_of_grown hg4.out (Nat.le_refl _) hB.size)⟩
end Go.Proofs.YteecamdcfkielaaDoor.Wr
