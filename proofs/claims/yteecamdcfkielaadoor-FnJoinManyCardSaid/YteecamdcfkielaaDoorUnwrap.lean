/- The walk of jwebb.Unwrap with the mixer; the conditions are on the length alone. -/
import Derived.Test.YteecamdcfkielaaDoorWrap
import Derived.Deep.RegionWith
set_option linter.unusedVariables false
set_option linter.unusedSimpArgs false
namespace Go.Proofs.YteecamdcfkielaaDoor.Wr
open Go.RowKit Go.Proofs.YteecamdcfkielaaDoor.K Go.Proofs.YteecamdcfkielaaDoor.Own
def wd1 (bs : List UInt8) (j : Nat) : List UInt8 := word bs (j + 1)
def unRun (D : List UInt8 → List UInt8) (n : Nat) (bs : List UInt8) : List UInt8 × (Nat → List UInt8) := decRun D n (6 * n) (bs.take 8, wd1 bs)
theorem mixed_take (a b : List UInt8) (h : a.length = 16) : mixed (a.take 8) b 8 = (mixed a b 8).take 8 := by
  refine List.ext_getElem (by simp [mixed]) (fun i h1 h2 => ?_)
  have h3 : i < 8 := by simp [mixed, h] at h1; omega
  rw [List.getElem_take]
  have e : bt (a.take 8) i = bt a i := by simp [bt, List.getD, List.getElem?_take, h3]
  simp [mixed, e]
theorem outV_next (ws : Nat → List UInt8) (n k : Nat) (hw : ∀ j, j < n → (ws j).length = 8) (hk : k < n) (M : Nat) (hM : 8 ≤ M) :
    splice (bys (flat ws k ++ List.replicate (8 * (n - k)) 0)) (8 * k) ((bys (ws k)).take M) = bys (flat ws (k + 1) ++ List.replicate (8 * (n - (k + 1))) 0) := by
  have hf : (flat ws k).length = 8 * k := flat_len ws k (fun j hj => hw j (by omega))
  have e : (bys (ws k)).take M = bys (ws k) := List.take_of_length_le (by rw [bys_length, hw k hk]; exact hM)
  rw [e]
  unfold splice
  have h1 : (bys (flat ws k ++ List.replicate (8 * (n - k)) 0)).take (8 * k) = bys (flat ws k) := by
    rw [bys_append, List.take_append_of_le_length (by rw [bys_length, hf]; omega)]
    exact List.take_of_length_le (by rw [bys_length, hf]; omega)
  have h2 : (bys (flat ws k ++ List.replicate (8 * (n - k)) 0)).drop (8 * k + (bys (ws k)).length) = bys (List.replicate (8 * (n - (k + 1))) 0) := by
    rw [bys_append, List.drop_append, List.drop_eq_nil_of_le (by simp only [bys_length, hf]; omega), List.nil_append]
    simp only [bys, List.map_replicate, List.drop_replicate, List.length_map, hf, hw k hk]
    congr 1
    omega
  rw [h1, h2, flat]
  simp [bys]
theorem outV_len (ws : Nat → List UInt8) (n k : Nat) (hw : ∀ j, j < n → (ws j).length = 8) (hk : k ≤ n) : (flat ws k ++ List.replicate (8 * (n - k)) 0 : List UInt8).length = 8 * n := by
  rw [List.length_append, flat_len ws k (fun j hj => hw j (by omega)), List.length_replicate]
  omega
theorem splice_lo (buf x : List UInt8) (hb : buf.length = 16) (hx : x.length = 8) : splice (bys buf) 0 ((bys x).take 8) = bys (x ++ buf.drop 8) := by
  have e : (bys x).take 8 = bys x := List.take_of_length_le (by rw [bys_length]; omega)
  rw [e]
  unfold splice
  rw [bys_length, hx]
  simp [bys]
set_option maxRecDepth 100000 in
set_option maxHeartbeats 4000000 in
theorem Unwrap_calls (w : World) (s m n : Nat) (A : Option Addr) (c : Nat) (bs : List UInt8) (hs : s < 18446744073709551616) (h1 : 1 ≤ n) (h2 : n ≤ 1000) (hm : m = 8 * n + 8) (hrb : RB w A m bs) (hcap : m ≤ c) :
    Calls Tryd.prog 19 #[.iface 40 (.agg #[.int .u64 s]), .slice A m c] w fun e w' => Below w.heap.size w w' ∧ (((unRun (decB s) n bs).1 = IV ∧ ∃ v, e = .returned (.tuple #[v, .nilIface]) ∧ OwnB w.heap.size w' v (flat (unRun (decB s) n bs).2 n)) ∨ ((unRun (decB s) n bs).1 ≠ IV ∧ ∃ q, e = .returned (.tuple #[.slice none 0 0, .iface 65 (.pointer q)]))) := by
  obtain ⟨i0, hi, hz0, hz1, hz2⟩ := info_parts info_u8
  obtain ⟨i1, hj, hy0, hy1, hy2⟩ := info_parts info_sl
  have hq : (m : Int) / 8 = (n : Int) + 1 := by omega
  have hr8 : (m : Int) % 8 = 0 := by omega
  have hm8 : 16 ≤ m := by omega
  have HM := Lib.hid hm
  have HRB := Lib.hid hrb
  have hlen := hrb.len
  have HL := Lib.hid hlen
  clear hm hrb hlen
  go_enter Tryd.func19, Tryd.ntmps19
  go_wp2_with (at_make; refine wpList_make_blk rfl _ _ 51 rfl 23 i1 (.slice none 0 0) Tryd.underlying51 hj hy0 hy1 rfl .i64 .i64 _ _ n rfl rfl rfl rfl (by rw [hy2]; omega) (by unfold maxLen; omega) ?_; intro w1 hb1 hB1 hs1)
  rw [← slots_zero w.heap.size n] at hb1
  have HB1 := Lib.hid hb1
  have HS1 := Lib.hid hs1
  clear hb1 hs1
  go_loopw [32] (fun i wr => ∃ k : Nat, k ≤ n ∧ i = .int .i64 k ∧ Hid (wr.heap.size = w.heap.size + 1 + k) ∧ Hid (Blk wr w.heap.size 23 (slots w.heap.size n k).toArray) ∧ Hid (∀ j, j < k → Blk wr (w.heap.size + 1 + j) 5 (bys (wd1 bs j)).toArray) ∧ Below w.heap.size w wr) (fun i _ => n - (intOf i).toNat)
  case atStart => exact ⟨0, Nat.zero_le _, rfl, HS1.out, HB1.out, fun j hj => absurd hj (by omega), hB1⟩
  case round =>
    clear hB1 HB1 HS1
    obtain ⟨k, hk, rfl, HS, HR, HW, hB⟩ := hrel
    by_cases hlt : k < n
    · go_wp2_with (first
        | (at_make; refine wpList_make_blk rfl _ _ 23 rfl 5 i0 (.int .u8 0) Tryd.underlying23 hi hz0 hz1 rfl .i64 .i64 _ _ 8 rfl rfl rfl rfl (by rw [hz2]; omega) (by unfold maxLen; omega) ?_; intro w2 hb2 hB2 hs2)
        | (refine wpList_putS rfl rfl _ _ rfl w.heap.size k rfl _ 8 8 rfl (slots w.heap.size n k).toArray (HR.out.below hB2 (by have := HS.out; omega)) (by simp [slots_len, hlt]) ?_; intro w3 hb3 hg3 hs3))
      have hlt2 : w.heap.size < wr.heap.size := by have := HS.out; omega
      have hc3 : w3.cell? ⟨w.heap.size, k, none⟩ = some (.slice (some ⟨wr.heap.size, 0, none⟩) 8 8) := by
        rw [hb3.cell]
        simp [slots_len, hlt]
      have hb4 : Blk w3.drew wr.heap.size 5 (List.replicate 8 (Value.int .u8 0)).toArray := by
        have := hb2.keep hg3 (by omega)
        rw [← List.toArray_replicate] at this
        exact this
      have hB3 : Below wr.heap.size wr w2 := hB2
      have hB4 : Below w.heap.size w w3 := (below_then hB hB2).trans (below_of_grown hg3 (Nat.le_refl _) (by have := hB.size; have := hB2.size; omega))
      obtain ⟨A', hcut, hrd⟩ := cut_l (P := Tryd.prog) Tryd.underlying23 hi hz1 .i64 (HRB.out.below hB4.drew (Nat.le_refl _)) hcap (((k : Int) + 1) * 8) (8 * k + 8) (by omega) (by have := HM.out; omega)
      have hrd2 : Reads w3.drew 1 A' (m - (8 * k + 8)) (bys (bs.drop (8 * k + 8))) := by simpa [bys] using hrd
      have HRD := Lib.hid hrd2
      have HB4 := Lib.hid hb4
      have HBB := Lib.hid hB4
      have HB3 := Lib.hid hb3
      have HG3 := Lib.hid hg3
      have HS3 := Lib.hid hs3
      have HB2 := Lib.hid hB2
      have HS2 := Lib.hid hs2
      clear hrd hrd2 hb4 hb3 hg3 hs3 hB2 hs2 hB3 hb2
      have hwk : IntKind.i64.wrap (((k : Int) + 1) * 8) = ((k : Int) + 1) * 8 := wrap_small _ (by omega) (by omega)
      have hw1 : IntKind.i64.wrap ((k : Int) + 1) = (k : Int) + 1 := wrap_small _ (by omega) (by omega)
      go_still_tail 9, (by kernel_rfl)
      change wpList _ _ _ _ _ w3.drew
      go_wp2_with (refine wpList_copy_only rfl _ _ _ _ rfl 5 Tryd.underlying23 info8 (some ⟨wr.heap.size, 0, none⟩) A' 8 8 (m - (8 * k + 8)) (c - (8 * k + 8)) rfl rfl wr.heap.size 0 (List.replicate 8 (Value.int .u8 0)) 5 HB4.out (bys (bs.drop (8 * k + 8))) HRD.out (fun _ => rfl) (by simp) (bys_one _) (bys (wd1 bs k)) (splice_word _ bs (n + 1) (k + 1) (by simp) (by rw [← HL.out, HM.out]; omega) (by omega)) ?_; intro w5 hb5 hg5 hs5; have HB5 := Lib.hid hb5; have HG5 := Lib.hid hg5; have HS5 := Lib.hid hs5; clear hb5 hg5 hs5)
      have HB6 := Lib.hid (HBB.out.drew.trans (below_of_grown HG5.out (by omega) HBB.out.drew.size))
      go_wp2
      go_roundw
      case rel =>
        refine ⟨k + 1, by omega, by go_num, ?_, ?_, ?_, HB6.out⟩
        · have := HS.out
          have := HS2.out
          have := HS3.out
          have := HS5.out
          show _ = _
          simp at *
          omega
        · show Blk _ _ _ _
          have hr3 := HB3.out
          rw [show (⟨wr.heap.size, 0, none⟩ : Addr) = ⟨w.heap.size + 1 + k, 0, none⟩ by rw [HS.out], slots_next] at hr3
          exact Blk.keep (w1 := w3.drew) hr3 HG5.out (by omega)
        · show ∀ j, j < k + 1 → _
          intro j hj
          rcases Nat.lt_succ_iff_lt_or_eq.1 hj with hj | rfl
          · have h1 := ((HW.out j hj).below HB2.out (HW.out j hj).lt).keep HG3.out (by omega)
            exact Blk.keep (w1 := w3.drew) h1 HG5.out (by have := HS.out; omega)
          · rw [← HS.out]
            exact HB5.out
      case measure => simp [intOf]; omega
    · obtain rfl : n = k := by omega
      clear hlt hk
      go_wp2_with (first
        | (at_make; refine wpList_make_blk rfl _ _ 23 rfl 5 i0 (.int .u8 0) Tryd.underlying23 hi hz0 hz1 rfl .i64 .i64 _ _ 16 rfl rfl rfl rfl (by rw [hz2]; omega) (by unfold maxLen; omega) ?_; intro w2 hb2 hB2 hs2; have HB2 := Lib.hid hb2; have HS2 := Lib.hid hs2; have HBB2 := Lib.hid hB2; clear hb2 hs2 hB2)
        | (at_make; refine wpList_make_blk rfl _ _ 23 rfl 5 i0 (.int .u8 0) Tryd.underlying23 hi hz0 hz1 rfl .i64 .i64 _ _ 8 rfl rfl rfl rfl (by rw [hz2]; omega) (by unfold maxLen; omega) ?_; intro w3 hb3 hB3 hs3; have HB3 := Lib.hid hb3; have HS3 := Lib.hid hs3; have HBB3 := Lib.hid hB3; clear hb3 hs3 hB3))
      have hb2l : Blk w3.drew wr.heap.size 5 (bys (List.replicate 16 0)).toArray := by
        have := HB2.out.below HBB3.out (by have := HS2.out; omega)
        rw [← List.toArray_replicate] at this
        exact this
      have hB3w : Below w.heap.size w w3 := below_then (below_then hB HBB2.out) HBB3.out
      obtain ⟨A', hcut, hrd⟩ := cut_h (P := Tryd.prog) Tryd.underlying23 hi hz1 .i64 (HRB.out.below hB3w.drew (Nat.le_refl _)) hcap 8 8 rfl (by omega)
      have hrd2 : Reads w3.drew 1 A' 8 (bys (bs.take 8)) := by simpa [bys, List.map_take] using hrd
      have HRD := Lib.hid hrd2
      have HB2L := Lib.hid hb2l
      have HB3W := Lib.hid hB3w
      clear hrd hrd2 hb2l hB3w
      go_still_tail 4, (by kernel_rfl)
      change wpList _ _ _ _ _ w3.drew
      have hx8 : (bs.take 8).length = 8 := by rw [List.length_take, ← HL.out]; omega
      have HX8 := Lib.hid hx8
      clear hx8
      go_wp2_with (refine wpList_copy_only rfl _ _ _ _ rfl 5 Tryd.underlying23 info8 (some ⟨wr.heap.size, 0, none⟩) A' 8 16 8 c rfl rfl wr.heap.size 0 (bys (List.replicate 16 0)) 5 HB2L.out (bys (bs.take 8)) HRD.out (fun _ => rfl) (by simp [bys]) (bys_one _) _ (splice_lo (List.replicate 16 0) (bs.take 8) (by simp) HX8.out) ?_; intro w5 hb5 hg5 hs5; have HB5 := Lib.hid hb5; have HG5 := Lib.hid hg5; have HS5 := Lib.hid hs5; clear hb5 hg5 hs5)
      have e1 : wr.heap.size = w.heap.size + 1 + n := HS.out
      have e2 : w2.heap.size = w.heap.size + 2 + n := by have := HS2.out; omega
      have hst : St w w5 n (wd1 bs) (bs.take 8 ++ (List.replicate 16 0).drop 8) (List.replicate 8 0) := by
        have s2 := HS2.out
        have s3 := HS3.out
        have keep : ∀ {g : Nat} {t : TypeId} {cs : Array Value}, Blk wr g t cs → Blk w5 g t cs := fun {g t cs} hb => by
          have hl := hb.lt
          exact Blk.keep (w1 := w3.drew) (Blk.drewN ((hb.below HBB2.out hl).below HBB3.out (by omega)) 1) HG5.out (by omega)
        refine ⟨keep HR.out, fun j hj => keep (HW.out j hj), fun j hj => word_len bs (n + 1) (j + 1) (by rw [← HL.out, HM.out]; omega) (by omega), ?_, by rw [List.length_append, HX8.out]; rfl, ?_, by simp, ?_⟩
        · rw [← e1]; exact HB5.out
        · rw [← e2]
          refine Blk.keep (w1 := w3.drew) ?_ HG5.out (by omega)
          have := HB3.out
          rw [← List.toArray_replicate] at this
          exact this
        · exact HB3W.out.drew.trans (below_of_grown HG5.out (by omega) HB3W.out.drew.size)
      simp only [e1, e2]
      have HST := Lib.hid hst
      clear hst e1 e2 HB5 HG5 HS5 HB3 HS3 HBB3 HB2 HS2 HBB2 HS HR HW hB HB2L HB3W HRD hcut
      have hst0 : Hid (decRun (decB s) n (6 * n) ((bs.take 8 ++ (List.replicate 16 0).drop 8).take 8, wd1 bs) = unRun (decB s) n bs) := by
        show _ = _
        rw [unRun, List.take_append_of_le_length (by rw [HX8.out]; omega), List.take_of_length_le (by rw [HX8.out]; omega)]
      go_loopw [11] (fun i wr => ∃ r : Nat, r ≤ 6 * n ∧ ∃ z : Int, i = .int .i64 z ∧ z = (r : Int) - 1 ∧ ∃ ws buf tb, Hid (St w wr n ws buf tb) ∧ Hid (decRun (decB s) n r (buf.take 8, ws) = unRun (decB s) n bs)) (fun i _ => (intOf i + 1).toNat)
      case atStart => exact ⟨6 * n, Nat.le_refl _, _, rfl, by omega, _, _, _, HST, hst0⟩
      case round =>
        clear HST hst0
        obtain ⟨r, hr, z, rfl, hz, ws, buf, tb, HST, HE⟩ := hrel
        by_cases hlt : 0 < r
        · obtain ⟨t, rfl⟩ : ∃ t, r = t + 1 := ⟨r - 1, by omega⟩
          obtain rfl : z = (t : Int) := by omega
          clear hz
          obtain ⟨i, hit, hin⟩ : ∃ i : Nat, i = t % n ∧ i < n := ⟨_, rfl, Nat.mod_lt _ h1⟩
          have hti : (t : Int) % (n : Int) = (i : Int) := by rw [hit, Int.natCast_emod]
          have hn0 : ((n : Int) == 0) = false := beq_eq_false_iff_ne.2 (by omega)
          have hn1 : ¬ n = 0 := by omega
          have htm : (t : Int).tmod (n : Int) = (i : Int) := by rw [Int.tmod_eq_emod_of_nonneg (by omega), hti]
          have hrm : IntKind.i64.wrap (i : Int) = (i : Int) := wrap_small _ (by omega) (by omega)
          have HIT := Lib.hid hit
          clear hit
          go_wp2_with (go_at_call 22; have hp8 := PutUint64_calls wr (w.heap.size + 2 + n) (t + 1) tb (by omega) HST.out.tlen HST.out.ctb; rw [show ((t + 1 : Nat) : Int) = (t : Int) + 1 from rfl] at hp8; refine hp8.mono ?_; clear hp8; rintro e w8 ⟨rfl, hb8, hg8⟩; have ST8 := Lib.hid (HST.out.setTb _ (b8_length _) hg8 hb8); clear hb8 hg8)
          obtain ⟨tb2, htb2⟩ : ∃ x, x = b8 (t + 1) := ⟨_, rfl⟩
          have st8 := ST8.out
          rw [← htb2] at st8
          have ST9 := Lib.hid st8
          have HTB := Lib.hid htb2
          clear st8 htb2 ST8 HST
          go_loopw [70] (fun k2 wr2 => ∃ k : Nat, k ≤ 8 ∧ k2 = .int .i64 k ∧ Hid (St w wr2 n ws (mixed buf tb2 k) tb2)) (fun k2 _ => 8 - (intOf k2).toNat)
          case atStart => exact ⟨0, Nat.zero_le _, rfl, by show St _ _ _ _ _ _; rw [mixed_zero]; exact ST9.out⟩
          case round =>
            clear ST9
            obtain ⟨k, hk, rfl, STK⟩ := hrel
            by_cases hk8 : k < 8
            · have hlb : k < buf.length := by have := STK.out.blen; rw [mixed_len] at this; omega
              have hcb := STK.out.cbuf.cell k
              rw [arr_at _ _ (by rw [mixed_len]; exact hlb), mixed_at _ _ _ _ hlb, if_neg (by omega)] at hcb
              have hct := STK.out.ctb.cell k
              rw [arr_at _ _ (by rw [STK.out.tlen]; exact hk8)] at hct
              have hk16 : (k : Int) < 16 := by omega
              have hk8i : (k : Int) < 8 := by omega
              have b1 := bt_lt buf k
              have b2 := bt_lt tb2 k
              have hx8 := u8_mix (bt buf k) (bt tb2 k)
              have HLB := Lib.hid hlb
              clear hlb
              go_wp2
              go_still_tail 12, (by kernel_rfl)
              change wpList _ _ _ _ _ wr.drew
              go_wp2_with (refine wpList_put (w0 := wr.drew) rfl rfl _ _ rfl (w.heap.size + 1 + n) k rfl _ rfl _ STK.out.drew.cbuf (by simp only [List.size_toArray, bys_length, mixed_len]; exact HLB.out) (World.grownBy.refl _ _) ?_; intro w9 hb9 hg9; have HB9 := Lib.hid hb9; have HG9 := Lib.hid hg9; clear hb9 hg9)
              go_roundw
              case rel =>
                refine ⟨k + 1, by omega, by go_num, ?_⟩
                show St _ _ _ _ _ _
                refine STK.out.drew.setBuf _ (by rw [mixed_len, ← mixed_len _ tb2 k]; exact STK.out.blen) HG9.out ?_
                rw [← mixed_next _ _ _ HLB.out]
                exact HB9.out
              case measure => simp [intOf]; omega
            · obtain rfl : k = 8 := by omega
              clear hk hk8
              have hc1 : wr.cell? ⟨w.heap.size, i, none⟩ = some (.slice (some ⟨w.heap.size + 1 + i, 0, none⟩) 8 8) := STK.out.slot hin
              have hbl : buf.length = 16 := by have := STK.out.blen; rwa [mixed_len] at this
              obtain ⟨b3, hb3⟩ : ∃ x, x = (mixed buf tb2 8).take 8 ++ ws i := ⟨_, rfl⟩
              have hb3l : b3.length = 16 := by rw [hb3, List.length_append, List.length_take, mixed_len, hbl, STK.out.len i hin]; rfl
              have hspl := splice_hi (mixed buf tb2 8) (ws i) STK.out.blen (STK.out.len i hin)
              rw [← hb3] at hspl
              obtain ⟨b4, hb4⟩ : ∃ x, x = decB s b3 := ⟨_, rfl⟩
              have hb4l : b4.length = 16 := by rw [hb4, decB_len]
              have hdl : (b4.drop 8).length = 8 := by rw [List.length_drop, hb4l]
              have HSPL := Lib.hid hspl
              have HB3 := Lib.hid hb3
              have HB3L := Lib.hid hb3l
              have HB4 := Lib.hid hb4
              have HB4L := Lib.hid hb4l
              have HDL := Lib.hid hdl
              have HBL := Lib.hid hbl
              have STD := Lib.hid STK.out.drew
              clear hdl hbl hspl hb3 hb3l hb4 hb4l
              have hme : ∀ W : World, (method 220 40 (.agg #[.int .u64 s]) "Decrypt").run Tryd.prog W = .ok (49, .agg #[.int .u64 s]) W := fun W => by kernel_rfl
              go_wp2
              go_still_tail 8, (by kernel_rfl)
              change wpList _ _ _ _ _ wr.drew
              go_wp2_with (first
                | (refine wpList_copy_only rfl _ _ _ _ rfl 5 Tryd.underlying23 info8 (some ⟨w.heap.size + 1 + n, 8, none⟩) (some ⟨w.heap.size + 1 + i, 0, none⟩) 8 8 8 8 rfl rfl (w.heap.size + 1 + n) 8 (bys (mixed buf tb2 8)) 5 STD.out.cbuf (bys (ws i)) (reads_eight (STD.out.wd i hin) (STD.out.len i hin)) (fun _ => rfl) (by rw [bys_length, STD.out.blen]; decide) (bys_one _) _ HSPL.out ?_; intro w6 hb6 hg6 hs6; have ST6 := Lib.hid (STD.out.setBuf _ HB3L.out hg6 hb6); clear hb6 hg6 hs6)
                | (go_at_call 49; refine (Decrypt_calls w6 s (w.heap.size + 1 + n) _ hs HB3L.out ST6.out.cbuf).mono ?_; rintro e w7 ⟨rfl, hb7, hg7⟩; rw [← HB4.out] at hb7; have ST7 := Lib.hid (ST6.out.setBuf _ HB4L.out hg7 hb7); clear hb7 hg7))
              have hc7 : w7.cell? ⟨w.heap.size, i, none⟩ = some (.slice (some ⟨w.heap.size + 1 + i, 0, none⟩) 8 8) := ST7.out.slot hin
              have STE := Lib.hid ST7.out.drew
              go_still_tail 8, (by kernel_rfl)
              change wpList _ _ _ _ _ w7.drew
              go_wp2_with (refine wpList_copy_only rfl _ _ _ _ rfl 5 Tryd.underlying23 info8 (some ⟨w.heap.size + 1 + i, 0, none⟩) (some ⟨w.heap.size + 1 + n, 8, none⟩) 8 8 8 8 rfl rfl (w.heap.size + 1 + i) 0 (bys (ws i)) 5 (STE.out.wd i hin) (bys (b4.drop 8)) (reads_hi STE.out.cbuf STE.out.blen) (fun _ => rfl) (by rw [bys_length, STE.out.len i hin]; decide) (bys_one _) _ (splice_wd _ _ (STE.out.len i hin) HDL.out) ?_; intro w9 hb9 hg9 hs9; have STF := Lib.hid (STE.out.setWd i hin _ HDL.out hg9 hb9); clear hb9 hg9 hs9)
              go_roundw
              case rel =>
                refine ⟨t, by omega, (t : Int) - 1, rfl, rfl, _, _, _, STF, ?_⟩
                show _ = _
                rw [← HE.out, decRun]
                unfold decStep
                dsimp only
                rw [mixed_take _ _ HBL.out, ← HTB.out, ← HIT.out, ← HB3.out, ← HB4.out]
              case measure => simp [intOf]
        · obtain rfl : r = 0 := by omega
          have hz1 : z = -1 := by omega
          clear hlt hr hz
          have hr30 : Reads wr 1 (some ⟨w.heap.size + 1 + n, 0, none⟩) 8 (bys (buf.take 8)) := by
            have := (HST.out.cbuf.reads 1 16 0 (by simp [bys, HST.out.blen])).take (k := 8) (by omega)
            simpa [bys, List.map_take, HST.out.blen, List.take_of_length_le] using this
          have HR30 := Lib.hid hr30
          clear hr30
          have hiv8 : Reads (wr.drew.alloc (.cells (bys IV).toArray 5)) 1 (some ⟨wr.heap.size, 0, none⟩) 8 (bys IV) := by
            have := reads_lit wr.drew 1 8 (bys IV) (bys IV).toArray (by simp) (by simp [bys, IV]) 5
            simpa using this
          have HIV8 := Lib.hid hiv8
          have hr31 : Reads (wr.drew.alloc (.cells (bys IV).toArray 5)) 1 (some ⟨w.heap.size + 1 + n, 0, none⟩) 8 (bys (buf.take 8)) := Reads.below HR30.out (((Below.refl wr.heap.size wr).drew).alloc (by simp) _) (Nat.le_refl _)
          have HR31 := Lib.hid hr31
          clear hiv8 hr31
          go_wp2
          by_cases hiv : buf.take 8 = IV
          · have HIV := Lib.hid hiv
            clear hiv
            go_region_with (first
              | (go_at_call 21; refine (keywrapDefaultIV_calls _).mono ?_; rintro e w4 ⟨rfl, hw4⟩; have HW4 := Lib.hid hw4; clear hw4)
              | (go_at_call 27; have hct := CTCompare_calls w4 (some ⟨w.heap.size + 1 + n, 0, none⟩) (some ⟨wr.heap.size, 0, none⟩) (buf.take 8) IV 8 16 8 (by rw [HW4.out]; exact HR31.out) (by rw [HW4.out]; exact HIV8.out) (by decide); rw [if_pos HIV.out] at hct; refine hct.mono ?_; clear hct; rintro e w6 ⟨rfl, j6, hw6⟩; have HW6 := Lib.hid hw6; clear hw6))
            have hB6 : Below wr.heap.size wr w6 := by
              rw [HW6.out]
              refine below_drewN ?_ _
              rw [HW4.out]
              exact ((Below.refl wr.heap.size wr).drew).alloc (by simp) _
            have ST6 := Lib.hid (HST.out.then hB6)
            clear hB6
            obtain ⟨N, hN⟩ : ∃ N, N = 8 * n := ⟨_, rfl⟩
            have HN := Lib.hid hN
            obtain ⟨go, hgo⟩ : ∃ go, go = w6.heap.size := ⟨_, rfl⟩
            have HGO := Lib.hid hgo
            have hlo := ST6.out.size
            rw [← hgo] at hlo
            clear hN hgo
            go_wp2_with (at_make; refine wpList_make_blk rfl _ _ 23 rfl 5 i0 (.int .u8 0) Tryd.underlying23 hi hz0 (by assumption) rfl .i64 .i64 _ _ N rfl rfl (by have := HN.out; omega) (by have := HN.out; omega) (by have := HN.out; rw [hz2]; omega) (by have := HN.out; unfold maxLen; omega) ?_; rw [← HGO.out]; intro w10 hb10 hB10 hs10; have HB10 := Lib.hid hb10; have HS10 := Lib.hid hs10; have HBB10 := Lib.hid hB10; clear hb10 hs10 hB10)
            have ST10 := Lib.hid (ST6.out.then (by rw [← HGO.out]; exact HBB10.out))
            have hb11 : Blk w10 go 5 (bys (flat ws 0 ++ List.replicate (8 * (n - 0)) 0)).toArray := by
              have := HB10.out
              rw [HN.out, ← List.toArray_replicate] at this
              simpa [bys, flat] using this
            have HB11 := Lib.hid hb11
            clear hb11
            go_loopw [119] (fun i wr => ∃ k : Nat, k ≤ n ∧ i = .int .i64 k ∧ Hid (St w wr n ws buf tb) ∧ Hid (Blk wr go 5 (bys (flat ws k ++ List.replicate (8 * (n - k)) 0)).toArray)) (fun i _ => n - (intOf i).toNat)
            case atStart => exact ⟨0, Nat.zero_le _, rfl, ST10, HB11⟩
            case round =>
              clear ST10 HB11
              obtain ⟨k, hk, rfl, STK, HBK⟩ := hrel
              by_cases hkn : k < n
              · have hc1 : wr.cell? ⟨w.heap.size, k, none⟩ = some (.slice (some ⟨w.heap.size + 1 + k, 0, none⟩) 8 8) := STK.out.slot hkn
                have hcut := cut_blk hi (by assumption) go N (8 * k) (by have := HN.out; omega) ((k : Int) * 8) (by omega)
                have hw8 : IntKind.i64.wrap ((k : Int) * 8) = (k : Int) * 8 := wrap_small _ (by omega) (by omega)
                have hki : (k : Int) < (n : Int) := by omega
                go_wp2
                go_still_tail 8, (by kernel_rfl)
                change wpList _ _ _ _ _ wr.drew
                go_wp2_with (refine wpList_copy_only rfl _ _ _ _ rfl 5 Tryd.underlying23 info8 (some ⟨go, 8 * k, none⟩) (some ⟨w.heap.size + 1 + k, 0, none⟩) (N - 8 * k) (N - 8 * k) 8 8 rfl rfl go (8 * k) (bys (flat ws k ++ List.replicate (8 * (n - k)) 0)) 5 (HBK.out.drewN 1) (bys (ws k)) (reads_eight (STK.out.drew.wd k hkn) (STK.out.len k hkn)) (fun _ => rfl) (by rw [bys_length, outV_len _ _ _ STK.out.len hk]; have := HN.out; omega) (bys_one _) _ (outV_next ws n k STK.out.len hkn _ (by have := HN.out; omega)) ?_; intro w12 hb12 hg12 hs12; have HB12 := Lib.hid hb12; have HG12 := Lib.hid hg12; clear hb12 hg12 hs12)
                go_roundw
                case rel =>
                  exact ⟨k + 1, by omega, by go_num, STK.out.drew.grown HG12.out (by omega), HB12⟩
                case measure => simp [intOf]; omega
              · obtain rfl : n = k := by omega
                clear hkn hk
                have hun : unRun (decB s) n bs = (buf.take 8, ws) := HE.out.symm
                have hres : flat ws n ++ List.replicate (8 * (n - n)) 0 = flat (unRun (decB s) n bs).2 n := by rw [hun]; simp
                rw [hres] at HBK
                have hlen : (flat (unRun (decB s) n bs).2 n).length = N := by rw [← hres, outV_len _ _ _ STK.out.len (Nat.le_refl _), HN.out]
                have hown := HBK.out.own w.heap.size 1 N (by omega) (by simp [bys, hlen]) (by have := HN.out; unfold maxLen; omega)
                have HOWN := Lib.hid (OwnB.mk (l := flat (unRun (decB s) n bs).2 n) (by simpa using hown))
                have HBW := Lib.hid STK.out.below
                have HUN := Lib.hid hun
                clear hown hlen hres hun
                go_wp2
                exact bodyPost_ret (v := .tuple #[.slice (some ⟨go, 0, none⟩) N N, .nilIface]) (by kernel_rfl) rfl ⟨HBW.out, .inl ⟨by rw [HUN.out]; exact HIV.out, _, rfl, HOWN.out⟩⟩
          · have HIV := Lib.hid hiv
            clear hiv
            go_region_with (first
              | (go_at_call 21; refine (keywrapDefaultIV_calls _).mono ?_; rintro e w4 ⟨rfl, hw4⟩; have HW4 := Lib.hid hw4; clear hw4)
              | (go_at_call 27; have hct := CTCompare_calls w4 (some ⟨w.heap.size + 1 + n, 0, none⟩) (some ⟨wr.heap.size, 0, none⟩) (buf.take 8) IV 8 16 8 (by rw [HW4.out]; exact HR31.out) (by rw [HW4.out]; exact HIV8.out) (by decide); rw [if_neg HIV.out] at hct; refine hct.mono ?_; clear hct; rintro e w6 ⟨rfl, j6, hw6⟩; have HW6 := Lib.hid hw6; clear hw6))
            have hB6 : Below wr.heap.size wr w6 := by
              rw [HW6.out]
              refine below_drewN ?_ _
              rw [HW4.out]
              exact ((Below.refl wr.heap.size wr).drew).alloc (by simp) _
            have ST6 := Lib.hid (HST.out.then hB6)
            clear hB6
            go_wp2_with (go_at_call 20; refine (New_calls _ _).mono ?_; rintro e w7 ⟨q, rfl, hB7⟩; have HB7 := Lib.hid hB7; clear hB7)
            have hun : unRun (decB s) n bs = (buf.take 8, ws) := HE.out.symm
            exact bodyPost_ret (v := .tuple #[.slice none 0 0, .iface 65 (.pointer q)]) (by kernel_rfl) rfl ⟨below_then ST6.out.below HB7.out, .inr ⟨by rw [hun]; exact HIV.out, q, rfl⟩⟩
end Go.Proofs.YteecamdcfkielaaDoor.Wr
