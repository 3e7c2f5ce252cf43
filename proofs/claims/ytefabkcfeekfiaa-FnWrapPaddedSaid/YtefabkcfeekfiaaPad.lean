/- Walks of the padding functions (aescbc): pad and its callers; the conditions are on sizes alone. -/
import Derived.Test.YtefabkcfeekfiaaOwn
set_option linter.unusedVariables false
set_option linter.unusedSimpArgs false
namespace Go.Proofs.Ytefabkcfeekfiaa.Pad
open Go.RowKit Go.Proofs.Ytefabkcfeekfiaa.K Go.Proofs.Ytefabkcfeekfiaa.Own
/-- What padding makes. -/
def padL (l : List UInt8) (b : Nat) : List UInt8 := l ++ List.replicate (b - l.length % b) (UInt8.ofNat (b - l.length % b))
/-- What the buffer holds when k bytes of padding have been laid. -/
def fillB (l : List UInt8) (r k : Nat) : List Value := bys (l ++ (List.replicate k (UInt8.ofNat r) ++ List.replicate (r - k) 0))
theorem fill_start (l : List UInt8) (r n : Nat) (hn : n = l.length) : splice (List.replicate (n + r) (Value.int .u8 0)) 0 (List.take (n + r) (bys l)) = fillB l r 0 := by
  subst hn
  have h1 : List.take (l.length + r) (bys l) = bys l := List.take_of_length_le (by rw [bys_length]; omega)
  rw [h1]
  unfold splice fillB
  rw [bys_length]
  simp [bys]
theorem fill_at (l : List UInt8) (r n k : Nat) (hn : n = l.length) (hk : k < r) : (fillB l r k).toArray[n + k]? = some (.int .u8 0) := by
  subst hn
  unfold fillB
  rw [List.getElem?_toArray, bys_append, List.getElem?_append_right (by rw [bys_length]; omega), bys_append, List.getElem?_append_right (by simp [bys])]
  simp [bys, List.getElem?_replicate]
  omega
theorem fill_end (l : List UInt8) (k : Nat) : (fillB l k k).toArray.toList = bys (l ++ List.replicate k (UInt8.ofNat k)) := by simp [fillB]
theorem fill_next (l : List UInt8) (r n k : Nat) (hn : n = l.length) (hk : k < r) : (fillB l r k).toArray.setIfInBounds (n + k) (.int .u8 (UInt8.ofNat r).toNat) = (fillB l r (k + 1)).toArray := by
  subst hn
  obtain ⟨d, rfl⟩ : ∃ d, r = k + d + 1 := ⟨r - k - 1, by omega⟩
  have e1 : k + d + 1 - k = d + 1 := by omega
  have e2 : k + d + 1 - (k + 1) = d := by omega
  simp only [fillB, bys, e1, e2, List.setIfInBounds_toArray, List.map_append, List.map_replicate]
  congr 1
  rw [List.set_append_right _ _ (by simp), List.set_append_right _ _ (by simp)]
  simp only [List.length_map, List.length_replicate, Nat.add_sub_cancel_left, Nat.sub_self, List.replicate_succ, List.set_cons_zero]
  rw [← List.replicate_succ, List.replicate_succ', List.append_assoc]
  rfl
theorem info8 : (Try.prog.info? 5).map (·.size) = some 1 := by kernel_rfl
set_option maxHeartbeats 400000 in
theorem pad_calls (w : World) (A : Option Addr) (l : List UInt8) (n c b : Nat) (h : RB w A n l) (hn : n ≤ 100000) (h1 : 1 ≤ b) (h2 : b ≤ 255) :
    Calls Try.prog 30 #[.slice A n c, .int .i64 b] w fun e w' => ∃ v, e = .returned v ∧ OwnB w.heap.size w' v (padL l b) ∧ Below w.heap.size w w' := by
  obtain ⟨i0, hi, hz0, hz1, hz2⟩ := info_parts info_u8
  obtain ⟨r, hr, hr1, hr2⟩ : ∃ r : Nat, b - n % b = r ∧ 1 ≤ r ∧ r ≤ 255 := ⟨_, rfl, by have := Nat.mod_lt n h1; omega, by omega⟩
  have hm : n % b < b := Nat.mod_lt n h1
  have hrI : (b : Int) - (n : Int) % (b : Int) = (r : Int) := by rw [← Int.natCast_emod]; omega
  have HR := Lib.hid hr
  have hlen := h.len
  have HL := Lib.hid hlen
  have hr0 : ((r : Int) == 0) = false := beq_eq_false_iff_ne.2 (by omega)
  clear hr hm hlen
  go_enter Try.func30, Try.ntmps30
  go_wp2_with (first
    | (at_make; refine wpList_make_blk rfl (.tmp 27) (.tmp 27) 37 rfl 5 i0 (.int .u8 0) Try.underlying37 hi hz0 hz1 rfl .i64 .i64 _ _ (n + r) rfl rfl (by omega) (by omega) (by rw [hz2]; omega) (by unfold maxLen; omega) ?_; intro w1 hb1 hB1 hs1)
    | (refine wpList_copy_blk rfl (.tmp 29) (.tmp 30) 37 37 rfl 5 Try.underlying37 info8 (some ⟨w.heap.size, 0, none⟩) A (n + r) (n + r) n c rfl rfl w.heap.size 0 (List.replicate (n + r) (.int .u8 0)) 5 (by simpa using hb1) (bys l) (h.below hB1 (Nat.le_refl _)) (fun _ => rfl) (by simp) (bys_one l) w.heap.size (Nat.le_refl _) ?_; intro w2 hb2 hB2 hs2)
    | fail)
  have hB : Below w.heap.size w w2 := hB1.trans hB2
  have hb3 : Blk w2 w.heap.size 5 (fillB l r 0).toArray := by rw [← fill_start l r n HL.out]; exact hb2
  clear hb1 hB1 hb2 hB2 hs1 hs2
  go_loopw [9] (fun i wr => ∃ k : Nat, k ≤ r ∧ i = .int .i64 ((n + k : Nat) : Int) ∧ Hid (Blk wr w.heap.size 5 (fillB l r k).toArray) ∧ Below w.heap.size w wr) (fun i _ => n + r - (intOf i).toNat)
  case atStart => exact ⟨0, Nat.zero_le _, by go_num, hb3, hB⟩
  case round =>
    clear hB hb3
    obtain ⟨k, hk, rfl, hb, hB⟩ := hrel
    by_cases hlt : k < r
    · have hf : wr.frozen? ⟨w.heap.size, n + k, none⟩ = false := hb.out.frozen _
      have hc : wr.cell? ⟨w.heap.size, n + k, none⟩ = some (.int .u8 0) := by
        rw [hb.out.cell]
        exact fill_at l r n k HL.out hlt
      go_wp2
      go_roundw
      case rel =>
        refine ⟨k + 1, by omega, by go_num, ?_, hB.setCell (Nat.le_refl _) _⟩
        show Blk _ _ _ _
        rw [← fill_next l r n k HL.out hlt, show ((UInt8.ofNat r).toNat : Int) = (r : Int) by simp; omega]
        exact hb.out.set_ _ _
      case measure => simp [intOf]; omega
    · obtain rfl : k = r := by omega
      go_wp2
      go_ret
      refine ⟨_, rfl, ?_, hB⟩
      have hp : padL l b = l ++ List.replicate k (UInt8.ofNat k) := by unfold padL; rw [← HL.out, HR.out]
      rw [hp]
      refine .mk (n := n + k) ?_
      have := hb.out.own_toList w.heap.size (Nat.le_refl _) (n := n + k) (by simp [fillB, bys, HL.out]) (by unfold maxLen; omega)
      rw [← fill_end]
      exact this
theorem Pad_calls (w : World) (A : Option Addr) (l : List UInt8) (n c b : Nat) (h : RB w A n l) (hn : n ≤ 100000) (h1 : 1 ≤ b) (h2 : b ≤ 255) :
    Calls Try.prog 27 #[.slice A n c, .int .i64 b] w fun e w' => ∃ v, e = .returned v ∧ OwnB w.heap.size w' v (padL l b) ∧ Below w.heap.size w w' := by
  have hc := Lib.hid (pad_calls w A l n c b h hn h1 h2)
  go_enter Try.func27, Try.ntmps27
  go_wp2_with (go_at_call 30; refine hc.out.mono ?_; rintro e w1 ⟨v, rfl, ho, hb⟩; have ho := Lib.hid ho)
  go_ret
  exact ⟨v, rfl, ho.out, hb⟩
theorem Padded_calls (w : World) (A : Option Addr) (l : List UInt8) (n c b : Nat) (h : RB w A n l) (hn : n ≤ 100000) (h1 : 1 ≤ b) (h2 : b ≤ 255) :
    Calls Try.prog 14 #[.slice A n c, .int .i64 b] w fun e w' => ∃ v, e = .returned v ∧ OwnB w.heap.size w' v (padL l b) ∧ Below w.heap.size w w' := by
  have hc := Lib.hid (Clone_calls w A l n c h (by omega))
  go_enter Try.func14, Try.ntmps14
  go_wp2_with (first
    | (go_at_call 28; refine hc.out.mono ?_; rintro e w1 ⟨v, rfl, ⟨A1, c1, rfl, hle, ho⟩, hb⟩; have ho := Lib.hid ho)
    | (go_at_call 27; refine (Pad_calls w1 A1 l l.length c1 b (Reads.of_own ho.out) (by have := h.len; omega) h1 h2).mono ?_; rintro e w2 ⟨v, rfl, ho2, hb2⟩; have ho2 := Lib.hid ho2))
  go_ret
  obtain ⟨A2, c2, rfl, hle2, ho3⟩ := ho2.out
  exact ⟨_, rfl, ⟨A2, c2, rfl, hle2, own_base ho3 hb.size⟩, hb.trans (hb2.mono hb.size)⟩
end Go.Proofs.Ytefabkcfeekfiaa.Pad
