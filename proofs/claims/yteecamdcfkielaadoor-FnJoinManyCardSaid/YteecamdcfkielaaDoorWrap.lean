/- The walk of jwebb.Wrap with the mixer; the conditions are on the length alone. -/
import Derived.Test.YteecamdcfkielaaDoorWMem
import Derived.StillTailTactics
set_option linter.unusedVariables false
set_option linter.unusedSimpArgs false
namespace Go.Proofs.YteecamdcfkielaaDoor.Wr
open Go.RowKit Go.Proofs.YteecamdcfkielaaDoor.K Go.Proofs.YteecamdcfkielaaDoor.Own
theorem info_sl : (Tryd.prog.info? 23).map (fun i => (i.zero, i.size, i.bytes)) = some (some (.slice none 0 0), 1, 24) := by kernel_rfl
theorem info8 : (Tryd.prog.info? 5).map (·.size) = some 1 := by kernel_rfl
theorem splice_whole (Z cs : List Value) (h : Z.length = cs.length) : splice Z 0 cs = cs := by
  unfold splice
  rw [List.drop_eq_nil_of_le (by omega)]
  simp
theorem splice_word (Z : List Value) (bs : List UInt8) (n k : Nat) (hz : Z.length = 8) (h : bs.length = 8 * n) (hk : k < n) : splice Z 0 ((bys (bs.drop (8 * k))).take 8) = bys (word bs k) := by
  have e : (bys (bs.drop (8 * k))).take 8 = bys (word bs k) := by simp [bys, word]
  rw [e, splice_whole _ _ (by rw [hz, bys_length, word_len bs n k h hk])]
theorem splice_hi (buf x : List UInt8) (hb : buf.length = 16) (hx : x.length = 8) : splice (bys buf) 8 ((bys x).take 8) = bys (buf.take 8 ++ x) := by
  have e : (bys x).take 8 = bys x := List.take_of_length_le (by rw [bys_length]; omega)
  rw [e]
  unfold splice
  rw [bys_length, hx, List.drop_eq_nil_of_le (by rw [bys_length]; omega)]
  simp [bys]
theorem mixed_drop (a b : List UInt8) (h : a.length = 16) : (mixed a b 8).drop 8 = a.drop 8 := by
  refine List.ext_getElem (by simp [mixed]) (fun i h1 h2 => ?_)
  rw [List.getElem_drop, List.getElem_drop]
  have h3 : 8 + i < a.length := by simpa [Nat.lt_sub_iff_add_lt, Nat.add_comm] using h2
  simp [mixed, bt_get a (8 + i) h3]
  intro; omega
theorem u8_mix (a b : UInt8) : bits .xor .u8 (a.toNat : Int) (b.toNat : Int) = ((a ^^^ b).toNat : Int) := by
  rw [u8_xor_nat _ _ a.toNat_lt b.toNat_lt, UInt8.toNat_xor]
theorem reads_hi {w : World} {g : Nat} {l : List UInt8} (h : Blk w g 5 (bys l).toArray) (hl : l.length = 16) : Reads w 1 (some ⟨g, 8, none⟩) 8 (bys (l.drop 8)) := by
  have := h.reads 1 8 8 (by simp [bys, hl])
  have e : (bys l).toArray.toList.drop (8 * 1) = bys (l.drop 8) := by simp [bys]
  rw [e, List.take_of_length_le (by simp [bys, hl])] at this
  exact this
theorem reads_eight {w : World} {g : Nat} {l : List UInt8} (h : Blk w g 5 (bys l).toArray) (hl : l.length = 8) : Reads w 1 (some ⟨g, 0, none⟩) 8 (bys l) := by
  have := h.reads 1 8 0 (by simp [bys, hl])
  have e : (bys l).toArray.toList.drop (0 * 1) = bys l := by simp [bys]
  rw [e, List.take_of_length_le (by simp [bys, hl])] at this
  exact this
theorem splice_wd (x y : List UInt8) (hx : x.length = 8) (hy : y.length = 8) : splice (bys x) 0 ((bys y).take 8) = bys y := by
  have e : (bys y).take 8 = bys y := List.take_of_length_le (by rw [bys_length]; omega)
  rw [e, splice_whole _ _ (by rw [bys_length, bys_length, hx, hy])]
theorem cut_blk {i : TypeInfo} (hi : Tryd.prog.info? 5 = some i) (hs : i.size = 1) (g n l : Nat) (hl : l < n) (L : Int) (hL : L = (l : Int)) (W : World) :
    (Instr.slice 23 (.slice (some ⟨g, 0, none⟩) n n) (some (.int .i64 L)) none none).run Tryd.prog W = .ok (.slice (some ⟨g, l, none⟩) (n - l) (n - l)) W := by
  subst hL
  have hel : Tryd.prog.elem 23 = 5 := by simp [Program.elem, Tryd.underlying23]
  have hu : Tryd.prog.underlying 23 = some (.slice (Tryd.prog.elem 23)) := by rw [hel]; exact Tryd.underlying23
  rw [run_slice_l W 23 _ n n hu .i64 (l : Int) (by omega) (by omega), hel]
  have hne : ¬ n = l := by omega
  simp [sizeOf, typeInfo, hi, hs, sliced, Result.andThen, hne, add_plain]
/-- What has been laid out when k words are done. -/
def outW (a : List UInt8) (ws : Nat → List UInt8) (n k : Nat) : List UInt8 := a ++ flat ws k ++ List.replicate (8 * (n - k)) 0
theorem outW_next (a : List UInt8) (ws : Nat → List UInt8) (n k : Nat) (ha : a.length = 8) (hw : ∀ j, j < n → (ws j).length = 8) (hk : k < n) (M : Nat) (hM : 8 ≤ M) :
    splice (bys (outW a ws n k)) (8 * k + 8) ((bys (ws k)).take M) = bys (outW a ws n (k + 1)) := by
  have hf : (flat ws k).length = 8 * k := flat_len ws k (fun j hj => hw j (by omega))
  have e : (bys (ws k)).take M = bys (ws k) := List.take_of_length_le (by rw [bys_length, hw k hk]; exact hM)
  rw [e]
  unfold splice
  have h1 : (bys (outW a ws n k)).take (8 * k + 8) = bys (a ++ flat ws k) := by
    unfold outW
    rw [bys_append (a ++ flat ws k), List.take_append_of_le_length (by rw [bys_length, List.length_append, ha, hf]; omega)]
    exact List.take_of_length_le (by rw [bys_length, List.length_append, ha, hf]; omega)
  have h2 : (bys (outW a ws n k)).drop (8 * k + 8 + (bys (ws k)).length) = bys (List.replicate (8 * (n - (k + 1))) 0) := by
    unfold outW
    rw [bys_append (a ++ flat ws k), List.drop_append, List.drop_eq_nil_of_le (by simp only [bys_length, List.length_append, ha, hf]; omega), List.nil_append]
    simp only [bys, List.map_replicate, List.drop_replicate, List.length_map, List.length_append, ha, hf, hw k hk]
    congr 1
    omega
  rw [h1, h2, outW, flat]
  simp [bys]
theorem outW_zero (a : List UInt8) (ws : Nat → List UInt8) (n N : Nat) (ha : a.length = 8) (hN : N = 8 * n + 8) : splice (List.replicate N (Value.int .u8 0)) 0 ((bys a).take N) = bys (outW a ws n 0) := by
  have e : (bys a).take N = bys a := List.take_of_length_le (by rw [bys_length]; omega)
  rw [e]
  unfold splice outW
  rw [bys_length, ha]
  have e2 : N - (0 + 8) = 8 * (n - 0) := by omega
  simp [bys, flat, List.drop_replicate, e2]
theorem outW_len (a : List UInt8) (ws : Nat → List UInt8) (n k : Nat) (ha : a.length = 8) (hw : ∀ j, j < n → (ws j).length = 8) (hk : k ≤ n) : (outW a ws n k).length = 8 * n + 8 := by
  rw [outW, List.length_append, List.length_append, flat_len ws k (fun j hj => hw j (by omega)), ha, List.length_replicate]
  omega
theorem outW_end (a : List UInt8) (ws : Nat → List UInt8) (n : Nat) : outW a ws n n = a ++ flat ws n := by simp [outW]
def IV : List UInt8 := List.replicate 8 166
def wrapB (E : List UInt8 → List UInt8) (n : Nat) (bs : List UInt8) : List UInt8 := (encRun E n (6 * n) (IV, word bs)).1 ++ flat (encRun E n (6 * n) (IV, word bs)).2 n
set_option maxRecDepth 100000 in
set_option maxHeartbeats 4000000 in
theorem Wrap_calls (w : World) (s m n : Nat) (A : Option Addr) (c : Nat) (bs : List UInt8) (hs : s < 18446744073709551616) (h1 : 1 ≤ n) (h2 : n ≤ 1000) (hm : m = 8 * n) (hrb : RB w A m bs) (hcap : m ≤ c) :
    Calls Tryd.prog 13 #[.iface 40 (.agg #[.int .u64 s]), .slice A m c] w fun e w' => ∃ v, e = .returned (.tuple #[v, .nilIface]) ∧ OwnB w.heap.size w' v (wrapB (encB s) n bs) ∧ Below w.heap.size w w' := by
  obtain ⟨i0, hi, hz0, hz1, hz2⟩ := info_parts info_u8
  obtain ⟨i1, hj, hy0, hy1, hy2⟩ := info_parts info_sl
  have hq : (m : Int) / 8 = (n : Int) := by omega
  have hr8 : (m : Int) % 8 = 0 := by omega
  have hm8 : 8 ≤ m := by omega
  have HM := Lib.hid hm
  have HRB := Lib.hid hrb
  have hlen := hrb.len
  have HL := Lib.hid hlen
  clear hm hrb hlen
  go_enter Tryd.func13, Tryd.ntmps13
  go_wp2_with (at_make; refine wpList_make_blk rfl _ _ 51 rfl 23 i1 (.slice none 0 0) Tryd.underlying51 hj hy0 hy1 rfl .i64 .i64 _ _ n rfl rfl rfl rfl (by rw [hy2]; omega) (by unfold maxLen; omega) ?_; intro w1 hb1 hB1 hs1)
  rw [← slots_zero w.heap.size n] at hb1
  have HB1 := Lib.hid hb1
  have HS1 := Lib.hid hs1
  clear hb1 hs1
  go_loopw [30] (fun i wr => ∃ k : Nat, k ≤ n ∧ i = .int .i64 k ∧ Hid (wr.heap.size = w.heap.size + 1 + k) ∧ Hid (Blk wr w.heap.size 23 (slots w.heap.size n k).toArray) ∧ Hid (∀ j, j < k → Blk wr (w.heap.size + 1 + j) 5 (bys (word bs j)).toArray) ∧ Below w.heap.size w wr) (fun i _ => n - (intOf i).toNat)
  case atStart => exact ⟨0, Nat.zero_le _, rfl, HS1.out, HB1.out, fun j hj => absurd hj (by omega), hB1⟩
  case round =>
    clear hB1 HB1 HS1
    obtain ⟨k, hk, rfl, HS, HR, HW, hB⟩ := hrel
    by_cases hlt : k < n
    · go_wp2_with (first
        | (at_make; refine wpList_make_blk rfl _ _ 23 rfl 5 i0 (.int .u8 0) Tryd.underlying23 hi hz0 hz1 rfl .i64 .i64 _ _ 8 rfl rfl rfl rfl (by rw [hz2]; omega) (by unfold maxLen; omega) ?_; intro w2 hb2 hB2 hs2)
        | (refine wpList_putS rfl rfl _ _ rfl w.heap.size k rfl _ 8 8 rfl (slots w.heap.size n k).toArray (HR.out.below hB2 (by have := HS.out; omega)) (by simp [slots_len, hlt]) ?_; intro w3 hb3 hg3 hs3))
      have hlt2 : w.heap.size < wr.heap.size := by have := HS.out; omega
      have hc3 : w3.cell? ⟨w.heap.size, k, none⟩ = some (.slice (some ⟨wr.heap.size, 0, none⟩) 8 8) := by
        rw [hb3.cell]
        simp [slots_len, hlt]
      have hb4 : Blk w3.drew wr.heap.size 5 (List.replicate 8 (Value.int .u8 0)).toArray := by
        have := hb2.keep hg3 (by omega)
        rw [← List.toArray_replicate] at this
        exact this
      have hB3 : Below wr.heap.size wr w2 := hB2
      have hB4 : Below w.heap.size w w3 := (below_then hB hB2).trans (below_of_grown hg3 (Nat.le_refl _) (by have := hB.size; have := hB2.size; omega))
      obtain ⟨A', hcut, hrd⟩ := cut_l (P := Tryd.prog) Tryd.underlying23 hi hz1 .i64 (HRB.out.below hB4.drew (Nat.le_refl _)) hcap ((k : Int) * 8) (8 * k) (by omega) (by have := HM.out; omega)
      have hrd2 : Reads w3.drew 1 A' (m - 8 * k) (bys (bs.drop (8 * k))) := by simpa [bys] using hrd
      have HRD := Lib.hid hrd2
      have HB4 := Lib.hid hb4
      have HBB := Lib.hid hB4
      have HB3 := Lib.hid hb3
      have HG3 := Lib.hid hg3
      have HS3 := Lib.hid hs3
      have HB2 := Lib.hid hB2
      have HS2 := Lib.hid hs2
      clear hrd hrd2 hb4 hb3 hg3 hs3 hB2 hs2 hB3 hb2
      have hwk : IntKind.i64.wrap ((k : Int) * 8) = (k : Int) * 8 := wrap_small _ (by omega) (by omega)
      go_still_tail 8, (by kernel_rfl)
      change wpList _ _ _ _ _ w3.drew
      go_wp2_with (refine wpList_copy_only rfl _ _ _ _ rfl 5 Tryd.underlying23 info8 (some ⟨wr.heap.size, 0, none⟩) A' 8 8 (m - 8 * k) (c - 8 * k) rfl rfl wr.heap.size 0 (List.replicate 8 (Value.int .u8 0)) 5 HB4.out (bys (bs.drop (8 * k))) HRD.out (fun _ => rfl) (by simp) (bys_one _) (bys (word bs k)) (splice_word _ bs n k (by simp) (by rw [← HL.out, HM.out]) hlt) ?_; intro w5 hb5 hg5 hs5; have HB5 := Lib.hid hb5; have HG5 := Lib.hid hg5; have HS5 := Lib.hid hs5; clear hb5 hg5 hs5)
      have HB6 := Lib.hid (HBB.out.drew.trans (below_of_grown HG5.out (by omega) HBB.out.drew.size))
      go_wp2
      go_roundw
      case rel =>
        refine ⟨k + 1, by omega, by go_num, ?_, ?_, ?_, HB6.out⟩
        · have := HS.out
          have := HS2.out
          have := HS3.out
          have := HS5.out
          show _ = _
          simp at *
          omega
        · show Blk _ _ _ _
          have hr3 := HB3.out
          rw [show (⟨wr.heap.size, 0, none⟩ : Addr) = ⟨w.heap.size + 1 + k, 0, none⟩ by rw [HS.out], slots_next] at hr3
          exact Blk.keep (w1 := w3.drew) hr3 HG5.out (by omega)
        · show ∀ j, j < k + 1 → _
          intro j hj
          rcases Nat.lt_succ_iff_lt_or_eq.1 hj with hj | rfl
          · have h1 := ((HW.out j hj).below HB2.out (HW.out j hj).lt).keep HG3.out (by omega)
            exact Blk.keep (w1 := w3.drew) h1 HG5.out (by have := HS.out; omega)
          · rw [← HS.out]
            exact HB5.out
      case measure => simp [intOf]; omega
    · obtain rfl : n = k := by omega
      clear hlt hk
      go_wp2_with (first
        | (at_make; refine wpList_make_blk rfl _ _ 23 rfl 5 i0 (.int .u8 0) Tryd.underlying23 hi hz0 hz1 rfl .i64 .i64 _ _ 16 rfl rfl rfl rfl (by rw [hz2]; omega) (by unfold maxLen; omega) ?_; intro w2 hb2 hB2 hs2; have HB2 := Lib.hid hb2; have HS2 := Lib.hid hs2; have HBB2 := Lib.hid hB2; clear hb2 hs2 hB2)
        | (at_make; refine wpList_make_blk rfl _ _ 23 rfl 5 i0 (.int .u8 0) Tryd.underlying23 hi hz0 hz1 rfl .i64 .i64 _ _ 8 rfl rfl rfl rfl (by rw [hz2]; omega) (by unfold maxLen; omega) ?_; intro w3 hb3 hB3 hs3; have HB3 := Lib.hid hb3; have HS3 := Lib.hid hs3; have HBB3 := Lib.hid hB3; clear hb3 hs3 hB3)
        | (go_at_call 21; refine (keywrapDefaultIV_calls _).mono ?_; rintro e w4 ⟨rfl, hw4⟩; have HW4 := Lib.hid hw4; clear hw4)
        | (refine wpList_copy_only rfl _ _ _ _ rfl 5 Tryd.underlying23 info8 (some ⟨wr.heap.size, 0, none⟩) (some ⟨w3.heap.size, 0, none⟩) 16 16 8 8 rfl rfl wr.heap.size 0 (List.replicate 16 (Value.int .u8 0)) 5 (by rw [HW4.out]; refine Blk.alloc ?_ _; rw [List.toArray_replicate]; exact HB2.out.below HBB3.out (by have := HS2.out; omega)) (bys IV) (by rw [HW4.out]; exact reads_lit w3 1 8 (bys IV) _ (by simp [IV]) (by simp [bys, IV]) _) (fun _ => rfl) (by simp) (bys_one _) (bys (IV ++ List.replicate 8 0)) (by simp [splice, bys, IV]) ?_; intro w5 hb5 hg5 hs5; have HB5 := Lib.hid hb5; have HG5 := Lib.hid hg5; have HS5 := Lib.hid hs5; clear hb5 hg5 hs5))
      have e1 : wr.heap.size = w.heap.size + 1 + n := HS.out
      have e2 : w2.heap.size = w.heap.size + 2 + n := by have := HS2.out; omega
      have hst : St w w5 n (word bs) (IV ++ List.replicate 8 0) (List.replicate 8 0) := by
        have hW4 := HW4.out
        have s2 := HS2.out
        have s3 := HS3.out
        have keep : ∀ {g : Nat} {t : TypeId} {cs : Array Value}, Blk wr g t cs → Blk w5 g t cs := fun {g t cs} hb => by
          have hl := hb.lt
          refine Blk.keep (w1 := w4) ?_ HG5.out (by omega)
          rw [hW4]
          exact ((hb.below HBB2.out hl).below HBB3.out (by omega)).alloc _
        refine ⟨keep HR.out, fun j hj => keep (HW.out j hj), fun j hj => word_len bs n j (by rw [← HL.out, HM.out]) hj, ?_, by simp [IV], ?_, by simp, ?_⟩
        · rw [← e1]; exact HB5.out
        · rw [← e2]
          refine Blk.keep (w1 := w4) ?_ HG5.out (by omega)
          rw [hW4]
          refine Blk.alloc ?_ _
          have := HB3.out
          rw [← List.toArray_replicate] at this
          simpa [bys] using this
        · have h4 : Below w.heap.size w w4 := by
            rw [hW4]
            exact below_alloc' (below_then (below_then hB HBB2.out) HBB3.out) _
          exact h4.trans (below_of_grown HG5.out (by omega) h4.size)
      simp only [e1, e2]
      have HST := Lib.hid hst
      clear hst e1 e2 HB5 HG5 HS5 HW4 HB3 HS3 HBB3 HB2 HS2 HBB2 HS HR HW hB
      go_loopw [54] (fun i wr => ∃ t : Nat, t ≤ 6 * n ∧ i = .int .i64 t ∧ ∃ ws buf tb, Hid (St w wr n ws buf tb) ∧ Hid ((buf.take 8, ws) = encRun (encB s) n t (IV, word bs))) (fun i _ => 6 * n - (intOf i).toNat)
      case atStart => exact ⟨0, Nat.zero_le _, rfl, _, _, _, HST, by simp [encRun, Hid, IV]⟩
      case round =>
        clear HST
        obtain ⟨t, ht, rfl, ws, buf, tb, HST, HE⟩ := hrel
        by_cases hlt : t < 6 * n
        · obtain ⟨i, hit, hin⟩ : ∃ i : Nat, i = t % n ∧ i < n := ⟨_, rfl, Nat.mod_lt _ h1⟩
          have hti : (t : Int) % (n : Int) = (i : Int) := by rw [hit, Int.natCast_emod]
          have hn0 : ((n : Int) == 0) = false := beq_eq_false_iff_ne.2 (by omega)
          have hn1 : ¬ n = 0 := by omega
          have htm : (t : Int).tmod (n : Int) = (i : Int) := by rw [Int.tmod_eq_emod_of_nonneg (by omega), hti]
          have hrm : IntKind.i64.wrap (i : Int) = (i : Int) := wrap_small _ (by omega) (by omega)
          have hc1 : wr.cell? ⟨w.heap.size, i, none⟩ = some (.slice (some ⟨w.heap.size + 1 + i, 0, none⟩) 8 8) := HST.out.slot hin
          have HIT := Lib.hid hit
          clear hit
          go_wp2
          go_still_tail 8, (by kernel_rfl)
          change wpList _ _ _ _ _ wr.drew
          have st1 := HST.out.drew
          have ST1 := Lib.hid st1
          have hbl : (buf.take 8 ++ ws i).length = 16 := by rw [List.length_append, List.length_take, st1.blen, st1.len i hin]; rfl
          have HBL := Lib.hid hbl
          clear st1 hbl
          have hme : ∀ W : World, (method 220 40 (.agg #[.int .u64 s]) "Encrypt").run Tryd.prog W = .ok (50, .agg #[.int .u64 s]) W := fun W => by kernel_rfl
          go_wp2_with (first
            | (refine wpList_copy_only rfl _ _ _ _ rfl 5 Tryd.underlying23 info8 (some ⟨w.heap.size + 1 + n, 8, none⟩) (some ⟨w.heap.size + 1 + i, 0, none⟩) 8 8 8 8 rfl rfl (w.heap.size + 1 + n) 8 (bys buf) 5 ST1.out.cbuf (bys (ws i)) (by have := (ST1.out.wd i hin).reads 1 8 0 (by simp [bys, ST1.out.len i hin]); simpa [List.take_of_length_le, bys, ST1.out.len i hin] using this) (fun _ => rfl) (by rw [bys_length, ST1.out.blen]; decide) (bys_one _) _ (splice_hi buf (ws i) ST1.out.blen (ST1.out.len i hin)) ?_; intro w6 hb6 hg6 hs6; have ST6 := Lib.hid (ST1.out.setBuf _ HBL.out hg6 hb6); clear hb6 hg6 hs6)
            | (go_at_call 50; refine (Encrypt_calls w6 s (w.heap.size + 1 + n) _ hs HBL.out ST6.out.cbuf).mono ?_; rintro e w7 ⟨rfl, hb7, hg7⟩; have ST7 := Lib.hid (ST6.out.setBuf _ (encB_len _ _) hg7 hb7); clear hb7 hg7)
            | (go_at_call 22; have hp8 := PutUint64_calls w7 (w.heap.size + 2 + n) (t + 1) tb (by omega) ST7.out.tlen ST7.out.ctb; rw [show ((t + 1 : Nat) : Int) = (t : Int) + 1 from rfl] at hp8; refine hp8.mono ?_; clear hp8; rintro e w8 ⟨rfl, hb8, hg8⟩; have ST8 := Lib.hid (ST7.out.setTb _ (b8_length _) hg8 hb8); clear hb8 hg8))
          obtain ⟨bf2, hbf2⟩ : ∃ x, x = encB s (buf.take 8 ++ ws i) := ⟨_, rfl⟩
          obtain ⟨tb2, htb2⟩ : ∃ x, x = b8 (t + 1) := ⟨_, rfl⟩
          have st8 := ST8.out
          rw [← hbf2, ← htb2] at st8
          have ST9 := Lib.hid st8
          have HBF := Lib.hid hbf2
          have HTB := Lib.hid htb2
          clear st8 hbf2 htb2 ST8 ST7 ST6 ST1 HBL hme hc1
          go_loopw [76] (fun k2 wr2 => ∃ k : Nat, k ≤ 8 ∧ k2 = .int .i64 k ∧ Hid (St w wr2 n ws (mixed bf2 tb2 k) tb2)) (fun k2 _ => 8 - (intOf k2).toNat)
          case atStart => exact ⟨0, Nat.zero_le _, rfl, by show St _ _ _ _ _ _; rw [mixed_zero]; exact ST9.out⟩
          case round =>
            clear ST9
            obtain ⟨k, hk, rfl, STK⟩ := hrel
            by_cases hk8 : k < 8
            · have hlb : k < bf2.length := by have := STK.out.blen; rw [mixed_len] at this; omega
              have hcb := STK.out.cbuf.cell k
              rw [arr_at _ _ (by rw [mixed_len]; exact hlb), mixed_at _ _ _ _ hlb, if_neg (by omega)] at hcb
              have hct := STK.out.ctb.cell k
              rw [arr_at _ _ (by rw [STK.out.tlen]; exact hk8)] at hct
              have hk16 : (k : Int) < 16 := by omega
              have hk8i : (k : Int) < 8 := by omega
              have b1 := bt_lt bf2 k
              have b2 := bt_lt tb2 k
              have hx8 := u8_mix (bt bf2 k) (bt tb2 k)
              have HLB := Lib.hid hlb
              clear hlb
              go_wp2
              go_still_tail 12, (by kernel_rfl)
              change wpList _ _ _ _ _ wr.drew
              go_wp2_with (refine wpList_put (w0 := wr.drew) rfl rfl _ _ rfl (w.heap.size + 1 + n) k rfl _ rfl _ STK.out.drew.cbuf (by simp only [List.size_toArray, bys_length, mixed_len]; exact HLB.out) (World.grownBy.refl _ _) ?_; intro w9 hb9 hg9; have HB9 := Lib.hid hb9; have HG9 := Lib.hid hg9; clear hb9 hg9)
              go_roundw
              case rel =>
                refine ⟨k + 1, by omega, by go_num, ?_⟩
                show St _ _ _ _ _ _
                refine STK.out.drew.setBuf _ (by rw [mixed_len, ← mixed_len _ tb2 k]; exact STK.out.blen) HG9.out ?_
                rw [← mixed_next _ _ _ HLB.out]
                exact HB9.out
              case measure => simp [intOf]; omega
            · obtain rfl : k = 8 := by omega
              clear hk hk8
              have hc1 : wr.cell? ⟨w.heap.size, i, none⟩ = some (.slice (some ⟨w.heap.size + 1 + i, 0, none⟩) 8 8) := STK.out.slot hin
              have hbl : bf2.length = 16 := by have := STK.out.blen; rwa [mixed_len] at this
              have hdl : ((mixed bf2 tb2 8).drop 8).length = 8 := by rw [List.length_drop, mixed_len, hbl]
              have HDL := Lib.hid hdl
              have HBL := Lib.hid hbl
              have STD := Lib.hid STK.out.drew
              clear hdl hbl
              go_wp2
              go_still_tail 8, (by kernel_rfl)
              change wpList _ _ _ _ _ wr.drew
              go_wp2_with (refine wpList_copy_only rfl _ _ _ _ rfl 5 Tryd.underlying23 info8 (some ⟨w.heap.size + 1 + i, 0, none⟩) (some ⟨w.heap.size + 1 + n, 8, none⟩) 8 8 8 8 rfl rfl (w.heap.size + 1 + i) 0 (bys (ws i)) 5 (STD.out.wd i hin) (bys ((mixed bf2 tb2 8).drop 8)) (reads_hi STD.out.cbuf STD.out.blen) (fun _ => rfl) (by rw [bys_length, STD.out.len i hin]; decide) (bys_one _) _ (splice_wd _ _ (STD.out.len i hin) HDL.out) ?_; intro w9 hb9 hg9 hs9; have STE := Lib.hid (STD.out.setWd i hin _ HDL.out hg9 hb9); clear hb9 hg9 hs9)
              go_roundw
              case rel =>
                refine ⟨t + 1, by omega, by go_num, _, _, _, STE, ?_⟩
                show _ = _
                rw [encRun, ← HE.out]
                unfold encStep
                dsimp only
                rw [← HIT.out, ← HBF.out, ← HTB.out, mixed_drop _ _ HBL.out]
              case measure => simp [intOf]; omega
        · obtain rfl : t = 6 * n := by omega
          clear hlt ht
          obtain ⟨N, hN⟩ : ∃ N, N = 8 * n + 8 := ⟨_, rfl⟩
          have HN := Lib.hid hN
          obtain ⟨go, hgo⟩ : ∃ go, go = wr.heap.size := ⟨_, rfl⟩
          have HGO := Lib.hid hgo
          have hlo := HST.out.size
          rw [← hgo] at hlo
          clear hN hgo
          have hba : (buf.take 8).length = 8 := by rw [List.length_take, HST.out.blen]; rfl
          have HBA := Lib.hid hba
          clear hba
          have hr30 : Reads wr 1 (some ⟨w.heap.size + 1 + n, 0, none⟩) 8 (bys (buf.take 8)) := by
            have := (HST.out.cbuf.reads 1 16 0 (by simp [bys, HST.out.blen])).take (k := 8) (by omega)
            simpa [bys, List.map_take, HST.out.blen, List.take_of_length_le] using this
          have HR30 := Lib.hid hr30
          clear hr30
          go_wp2_with (first
            | (at_make; refine wpList_make_blk rfl _ _ 23 rfl 5 i0 (.int .u8 0) Tryd.underlying23 hi hz0 hz1 rfl .i64 .i64 _ _ N rfl rfl (by have := HN.out; omega) (by have := HN.out; omega) (by have := HN.out; rw [hz2]; omega) (by have := HN.out; unfold maxLen; omega) ?_; rw [← HGO.out]; intro w10 hb10 hB10 hs10; have HB10 := Lib.hid hb10; have HS10 := Lib.hid hs10; have HBB10 := Lib.hid hB10; clear hb10 hs10 hB10)
            | (refine wpList_copy_only rfl _ _ _ _ rfl 5 Tryd.underlying23 info8 (some ⟨go, 0, none⟩) (some ⟨w.heap.size + 1 + n, 0, none⟩) N N 8 16 rfl rfl go 0 (List.replicate N (Value.int .u8 0)) 5 (by rw [List.toArray_replicate]; exact HB10.out) (bys (buf.take 8)) (HR30.out.below HBB10.out (by rw [HGO.out]; exact Nat.le_refl _)) (fun _ => rfl) (by simp) (bys_one _) _ (outW_zero _ ws n N HBA.out HN.out) ?_; intro w11 hb11 hg11 hs11; have HB11 := Lib.hid hb11; have HG11 := Lib.hid hg11; have HS11 := Lib.hid hs11; clear hb11 hg11 hs11))
          have hst11 : St w w11 n ws buf tb := by
            have h10 := HST.out.then (by rw [← HGO.out]; exact HBB10.out)
            exact h10.grown HG11.out hlo
          have ST11 := Lib.hid hst11
          clear hst11
          go_loopw [112] (fun i wr => ∃ k : Nat, k ≤ n ∧ i = .int .i64 k ∧ Hid (St w wr n ws buf tb) ∧ Hid (Blk wr go 5 (bys (outW (buf.take 8) ws n k)).toArray)) (fun i _ => n - (intOf i).toNat)
          case atStart => exact ⟨0, Nat.zero_le _, rfl, ST11, HB11⟩
          case round =>
            clear ST11 HB11
            obtain ⟨k, hk, rfl, STK, HBK⟩ := hrel
            by_cases hkn : k < n
            · have hc1 : wr.cell? ⟨w.heap.size, k, none⟩ = some (.slice (some ⟨w.heap.size + 1 + k, 0, none⟩) 8 8) := STK.out.slot hkn
              have hcut := cut_blk hi hz1 go N (8 * k + 8) (by have := HN.out; omega) (((k : Int) + 1) * 8) (by omega)
              have hw1 : IntKind.i64.wrap ((k : Int) + 1) = (k : Int) + 1 := wrap_small _ (by omega) (by omega)
              have hw8 : IntKind.i64.wrap (((k : Int) + 1) * 8) = ((k : Int) + 1) * 8 := wrap_small _ (by omega) (by omega)
              have hki : (k : Int) < (n : Int) := by omega
              go_wp2
              go_still_tail 9, (by kernel_rfl)
              change wpList _ _ _ _ _ wr.drew
              go_wp2_with (refine wpList_copy_only rfl _ _ _ _ rfl 5 Tryd.underlying23 info8 (some ⟨go, 8 * k + 8, none⟩) (some ⟨w.heap.size + 1 + k, 0, none⟩) (N - (8 * k + 8)) (N - (8 * k + 8)) 8 8 rfl rfl go (8 * k + 8) (bys (outW (buf.take 8) ws n k)) 5 (HBK.out.drewN 1) (bys (ws k)) (reads_eight (STK.out.drew.wd k hkn) (STK.out.len k hkn)) (fun _ => rfl) (by rw [bys_length, outW_len _ _ _ _ HBA.out STK.out.len hk]; have := HN.out; omega) (bys_one _) _ (outW_next _ ws n k HBA.out STK.out.len hkn _ (by have := HN.out; omega)) ?_; intro w12 hb12 hg12 hs12; have HB12 := Lib.hid hb12; have HG12 := Lib.hid hg12; clear hb12 hg12 hs12)
              go_roundw
              case rel =>
                exact ⟨k + 1, by omega, by go_num, STK.out.drew.grown HG12.out (by omega), HB12⟩
              case measure => simp [intOf]; omega
            · obtain rfl : n = k := by omega
              clear hkn hk
              have hres : outW (buf.take 8) ws n n = wrapB (encB s) n bs := by
                rw [outW_end, wrapB, ← HE.out]
              rw [hres] at HBK
              have hlen : (wrapB (encB s) n bs).length = N := by rw [← hres, outW_len _ _ _ _ HBA.out STK.out.len (Nat.le_refl _), HN.out]
              have hown := HBK.out.own w.heap.size 1 N (by omega) (by simp [bys, hlen]) (by have := HN.out; unfold maxLen; omega)
              have HOWN := Lib.hid (OwnB.mk (l := wrapB (encB s) n bs) (by simpa using hown))
              have HBW := Lib.hid STK.out.below
              clear hown hlen hres
              go_wp2
              exact bodyPost_ret (v := .tuple #[.slice (some ⟨go, 0, none⟩) N N, .nilIface]) (by kernel_rfl) rfl ⟨_, rfl, HOWN.out, HBW.out⟩
end Go.Proofs.YteecamdcfkielaaDoor.Wr
