/- The walk of spec.WrapOpen; the conditions are on the length alone. -/
import Derived.Test.YtakfblfepgigbaaWOpen
set_option linter.unusedVariables false
set_option linter.unusedSimpArgs false
namespace Go.Proofs.Ytakfblfepgigbaa.Wr
open Go.RowKit Go.Proofs.Ytakfblfepgigbaa.K Go.Proofs.Ytakfblfepgigbaa.Own
theorem info_u64 : (Try.prog.info? 34).map (fun i => (i.zero, i.size, i.bytes)) = some (some (.int .u64 0), 1, 8) := by kernel_rfl
def nstep (s n t : Nat) (p : Nat × (Nat → Nat)) : Nat × (Nat → Nat) := ((dec s (p.1 ^^^ (t + 1), p.2 (t % n))).1, updN p.2 (t % n) (dec s (p.1 ^^^ (t + 1), p.2 (t % n))).2)
def nrun (s n : Nat) : Nat → Nat × (Nat → Nat) → Nat × (Nat → Nat)
  | 0, p => p
  | t + 1, p => nrun s n t (nstep s n t p)
def openN (s n : Nat) (bs : List UInt8) : Nat × (Nat → Nat) := nrun s n (6 * n) (num (bs.take 8), fun j => num (wd1 bs j))
theorem decB_b8 (s l r : Nat) (hl : l < 18446744073709551616) (hr : r < 18446744073709551616) : decB s (b8 l ++ b8 r) = b8 (dec s (l, r)).1 ++ b8 (dec s (l, r)).2 := by
  unfold decB
  rw [(b8_split _ _).1, (b8_split _ _).2, num_b8 _ hl, num_b8 _ hr]
theorem decB_halves (s l r : Nat) (hl : l < 18446744073709551616) (hr : r < 18446744073709551616) : num ((decB s (b8 l ++ b8 r)).take 8) = (dec s (l, r)).1 ∧ num ((decB s (b8 l ++ b8 r)).drop 8) = (dec s (l, r)).2 := by
  have h := dec_lt s (l, r) hl hr
  rw [decB_b8 s l r hl hr, (b8_split _ _).1, (b8_split _ _).2, num_b8 _ h.1, num_b8 _ h.2]
  exact ⟨rfl, rfl⟩
def upto (f : Nat → Nat) (k j : Nat) : Nat := if j < k then f j else 0
theorem upto_next (f : Nat → Nat) (n k : Nat) (hk : k < n) : (nums (updN (upto f k) k (f k)) n) = nums (upto f (k + 1)) n := by
  refine List.map_congr_left (fun j hj => ?_)
  have : updN (upto f k) k (f k) j = upto f (k + 1) j := by
    unfold updN upto
    by_cases e : j = k
    · subst e; simp
    · rw [if_neg e]
      have e2 : (j < k + 1) = (j < k) := by apply propext; omega
      simp [e2]
  rw [this]
theorem upto_zero (f : Nat → Nat) (n : Nat) : (nums (upto f 0) n).toArray = Array.replicate n (.int .u64 0) := by
  apply Array.ext
  · simp [nums]
  · intro i h1 h2
    simp [nums, upto]
theorem upto_all (f : Nat → Nat) (n : Nat) : nums (upto f n) n = nums f n := by
  refine List.map_congr_left (fun j hj => ?_)
  have hj' : j < n := by simpa using hj
  simp [upto, hj']
set_option maxRecDepth 100000 in
set_option maxHeartbeats 4000000 in
theorem WrapOpen_calls (w : World) (s m n : Nat) (A : Option Addr) (c : Nat) (bs : List UInt8) (hs : s < 18446744073709551616) (h1 : 1 ≤ n) (h2 : n ≤ 800) (hm : m = 8 * n + 8) (hrb : RB w A m bs) (hcap : m ≤ c) :
    Calls Try.prog 20 #[.int .u64 s, .slice A m c] w fun e w' => ∃ A' c', e = .returned (.tuple #[.slice A' (8 * n) c', .bool (decide ((openN s n bs).1 = 12008468691120727718))]) ∧ RB w' A' (8 * n) (cat (openN s n bs).2 n) ∧ Below w.heap.size w w' := by
  obtain ⟨i0, hi, hz0, hz1, hz2⟩ := info_parts info_u8
  obtain ⟨i1, hj, hy0, hy1, hy2⟩ := info_parts info_u64
  have hq : (m : Int) / 8 = (n : Int) + 1 := by omega
  have hlen := hrb.len
  obtain ⟨Ah, hch, hrh⟩ := cut_h (P := Try.prog) Try.underlying22 hi hz1 .i64 hrb hcap 8 8 rfl (by omega)
  have hrh2 : RB w Ah 8 (bs.take 8) := by
    show Reads _ _ _ _ _
    simpa [bys, List.map_take] using hrh
  have hpn := PartNumber_calls w Ah (bs.take 8) 8 c hrh2 (by decide)
  have HPN := Lib.hid hpn
  have HM := Lib.hid hm
  have HRB := Lib.hid hrb
  have HL := Lib.hid hlen
  have HCAP := Lib.hid hcap
  clear hm hrb hlen hrh hrh2 hpn hcap
  go_enter Try.func20, Try.ntmps20
  go_wp2_with (first
    | (go_at_call 26; refine HPN.out.mono ?_; rintro e w0 ⟨rfl, rfl⟩)
    | (at_make; refine wpList_make_blk rfl _ _ 49 rfl 34 i1 (.int .u64 0) Try.underlying49 hj hy0 hy1 rfl .i64 .i64 _ _ n rfl rfl rfl rfl (by rw [hy2]; omega) (by unfold maxLen; omega) ?_; intro w1 hb1 hB1 hs1))
  obtain ⟨f, hf⟩ : ∃ f : Nat → Nat, f = fun j => num (wd1 bs j) := ⟨_, rfl⟩
  have hfl : ∀ j, j < n → f j < 18446744073709551616 := fun j hj => by
    rw [hf]
    exact num8_lt _ (word_len bs (n + 1) (j + 1) (by rw [← HL.out, HM.out]; omega) (by omega))
  have HF := Lib.hid hf
  have HFL := Lib.hid hfl
  rw [← upto_zero f n] at hb1
  have HB1 := Lib.hid hb1
  have HBB1 := Lib.hid hB1
  clear hf hfl hb1 hB1 hs1
  go_loopw [23] (fun i wr => ∃ k : Nat, k ≤ n ∧ i = .int .i64 k ∧ Hid (Blk wr w.heap.size 34 (nums (upto f k) n).toArray) ∧ Hid (Below w.heap.size w wr)) (fun i _ => n - (intOf i).toNat)
  case atStart => exact ⟨0, Nat.zero_le _, rfl, HB1, HBB1⟩
  case round =>
    clear HB1 HBB1
    obtain ⟨k, hk, rfl, HB, HBB⟩ := hrel
    by_cases hlt : k < n
    · obtain ⟨Ac, hcc, hrc⟩ := cut_lh (P := Try.prog) Try.underlying22 hi hz1 .i64 .i64 (HRB.out.below HBB.out (Nat.le_refl _)) HCAP.out (8 * (k : Int) + 8) (8 * (k : Int) + 16) (8 * k + 8) (8 * k + 16) (by omega) (by omega) (by omega) (by have := HM.out; omega)
      rw [show 8 * k + 16 - (8 * k + 8) = 8 by omega] at hcc hrc
      have hrc2 : RB wr Ac 8 (wd1 bs k) := by
        have e : List.drop ((8 * k + 8) * 1) (List.take ((8 * k + 16) * 1) (bys bs)) = bys (wd1 bs k) := by
          rw [Nat.mul_one, Nat.mul_one, show 8 * k + 16 = 8 * k + 8 + 8 by omega, List.drop_take]
          simp [bys, wd1, word, show 8 * (k + 1) = 8 * k + 8 by omega]
        rw [e] at hrc
        exact hrc
      have hpn := PartNumber_calls wr Ac (wd1 bs k) 8 (c - (8 * k + 8)) hrc2 (by decide)
      rw [show num (wd1 bs k) = f k by rw [HF.out]] at hpn
      have HPN2 := Lib.hid hpn
      clear hrc hrc2 hpn
      go_wp2_with (first
        | (go_at_call 26; refine HPN2.out.mono ?_; rintro e w2 ⟨rfl, rfl⟩)
        | (refine wpList_putU (w0 := wr) rfl rfl _ _ rfl w.heap.size k rfl _ rfl _ HB.out (by simp only [List.size_toArray, nums_len]; exact hlt) (World.grownBy.refl _ _) ?_; intro w3 hb3 hg3; have HB3 := Lib.hid hb3; have HG3 := Lib.hid hg3; clear hb3 hg3))
      go_roundw
      case rel =>
        refine ⟨k + 1, by omega, by go_num, ?_, HBB.out.trans (below_of_grown HG3.out (Nat.le_refl _) HBB.out.size)⟩
        show Blk _ _ _ _
        have hb := HB3.out
        rw [nums_set, upto_next f n k hlt] at hb
        exact hb
      case measure => simp [intOf]; omega
    · obtain rfl : n = k := by omega
      clear hlt hk
      have hb := HB.out
      rw [upto_all] at hb
      have HBN := Lib.hid hb
      have hst : Hid (nrun s n (n * 6) (num (bs.take 8), f) = openN s n bs) := by
        show _ = _
        rw [openN, HF.out, Nat.mul_comm n 6]
      have hal : num (bs.take 8) < 18446744073709551616 := num8_lt _ (by rw [List.length_take, ← HL.out]; have := HM.out; omega)
      have HAL := Lib.hid hal
      clear hb HB hal
      go_wp2
      go_loopw [7, 10] (fun va vj wr => ∃ (J a : Nat) (z : Int) (xs : Nat → Nat), J ≤ 6 ∧ vj = .int .i64 z ∧ z = (J : Int) - 1 ∧ va = .int .u64 a ∧ a < 18446744073709551616 ∧ Hid (∀ j, j < n → xs j < 18446744073709551616) ∧ Hid (Blk wr w.heap.size 34 (nums xs n).toArray) ∧ Hid (Below w.heap.size w wr) ∧ Hid (nrun s n (n * J) (a, xs) = openN s n bs)) (fun va vj _ => (intOf vj + 1).toNat)
      case atStart => exact ⟨6, _, 5, f, by omega, rfl, by omega, rfl, HAL.out, HFL, HBN, HBB, hst⟩
      case round =>
        clear hst HBN HBB HAL
        obtain ⟨J, a, z, xs, hJ, rfl, hz, rfl, ha, HX, HB, HBB, HE⟩ := hrel
        by_cases hlt : 0 < J
        · obtain ⟨j, rfl⟩ : ∃ j, J = j + 1 := ⟨J - 1, by omega⟩
          obtain rfl : z = (j : Int) := by omega
          clear hz
          obtain ⟨nj, hnj⟩ : ∃ nj, nj = n * j := ⟨_, rfl⟩
          have hnji : (n : Int) * (j : Int) = (nj : Int) := by rw [hnj, Int.natCast_mul]
          have hnjb : nj ≤ 4000 := by
            rw [hnj]
            exact Nat.le_trans (Nat.mul_le_mul h2 (show j ≤ 5 by omega)) (by decide)
          have HE2 : Hid (nrun s n (nj + n) (a, xs) = openN s n bs) := by
            show _ = _
            rw [← HE.out, hnj, Nat.mul_succ]
          have hmod : Hid (∀ i, i < n → (nj + i) % n = i) := by
            show ∀ i, i < n → _
            intro i hi'
            rw [hnj, Nat.mul_add_mod, Nat.mod_eq_of_lt hi']
          have HNJ := Lib.hid hnj
          clear hnj HE
          go_wp2
          go_loopw [7, 11] (fun va vi wr => ∃ (I a : Nat) (z : Int) (xs : Nat → Nat), I ≤ n ∧ vi = .int .i64 z ∧ z = (I : Int) - 1 ∧ va = .int .u64 a ∧ a < 18446744073709551616 ∧ Hid (∀ j, j < n → xs j < 18446744073709551616) ∧ Hid (Blk wr w.heap.size 34 (nums xs n).toArray) ∧ Hid (Below w.heap.size w wr) ∧ Hid (nrun s n (nj + I) (a, xs) = openN s n bs)) (fun va vi _ => (intOf vi + 1).toNat)
          case atStart => exact ⟨n, a, (n : Int) - 1, xs, Nat.le_refl _, rfl, rfl, rfl, ha, HX, HB, HBB, HE2⟩
          case round =>
            clear HE2 HX HB HBB ha
            obtain ⟨I, a, z, xs, hI, rfl, hz, rfl, ha, HX, HB, HBB, HE⟩ := hrel
            by_cases hlt2 : 0 < I
            · obtain ⟨i, rfl⟩ : ∃ i, I = i + 1 := ⟨I - 1, by omega⟩
              obtain rfl : z = (i : Int) := by omega
              clear hz
              obtain ⟨q, hqx⟩ : ∃ q, q = a ^^^ (nj + i + 1) := ⟨_, rfl⟩
              have hql : q < 18446744073709551616 := by rw [hqx]; exact xor_lt ha (by omega)
              have hxor : bits .xor .u64 (a : Int) ((nj : Int) + (i : Int) + 1) = (q : Int) := by
                rw [show (nj : Int) + (i : Int) + 1 = ((nj + i + 1 : Nat) : Int) from by omega, u64_xor_nat _ _ ha (by omega), hqx]
              obtain ⟨x, hx⟩ : ∃ x, x = xs i := ⟨_, rfl⟩
              have hxl : x < 18446744073709551616 := by rw [hx]; exact HX.out i (by omega)
              have hc1 : wr.cell? ⟨w.heap.size, i, none⟩ = some (.int .u64 (x : Nat)) := by
                rw [HB.out.cell, List.getElem?_toArray, nums_at xs n i (by omega), hx]
              obtain ⟨p, hp⟩ : ∃ p, p = dec s (q, x) := ⟨_, rfl⟩
              have hpl := dec_lt s (q, x) hql hxl
              have hdh := decB_halves s q x hql hxl
              rw [← hp] at hpl hdh
              have hwh := fun W => wrapHalves_calls W (decB s (b8 q ++ b8 x)) (decB_len _ _)
              rw [hdh.1, hdh.2] at hwh
              have HWH := Lib.hid hwh
              have hiin : (i : Int) < (n : Int) := by omega
              have HP := Lib.hid hp
              have HPL := Lib.hid hpl
              have HQL := Lib.hid hql
              have HQX := Lib.hid hqx
              have HXX := Lib.hid hx
              have HXL := Lib.hid hxl
              clear hp hpl hdh hwh hqx hx
              go_wp2_with (first
                | (go_at_call 29; refine (wrapBlock_calls wr q x HQL.out HXL.out).mono ?_; rintro e w1 ⟨rfl, hB1⟩; have HB1 := Lib.hid hB1; clear hB1)
                | (go_at_call 28; refine (WrapMixedBack_calls w1 s (b8 q ++ b8 x) hs (by simp [b8_length])).mono ?_; rintro e w2 ⟨rfl, hB2⟩; have HB2 := Lib.hid (below_then HB1.out hB2); clear hB2)
                | (go_at_call 27; refine (HWH.out w2).mono ?_; rintro e w3 ⟨rfl, hB3⟩; have HB3 := Lib.hid (below_then HB2.out hB3); clear hB3)
                | (refine wpList_putU (w0 := w3) rfl rfl _ _ rfl w.heap.size i rfl _ rfl _ (HB.out.below HB3.out HB.out.lt) (by simp only [List.size_toArray, nums_len]; omega) (World.grownBy.refl _ _) ?_; intro w4 hb4 hg4; have HB4 := Lib.hid hb4; have HG4 := Lib.hid hg4; clear hb4 hg4))
              go_roundw
              case rel =>
                refine ⟨i, p.1, (i : Int) - 1, updN xs i p.2, by omega, rfl, rfl, rfl, HPL.out.1, ?_, ?_, ?_, ?_⟩
                · show ∀ j, j < n → _
                  intro j hj'
                  unfold updN
                  split
                  · exact HPL.out.2
                  · exact HX.out j hj'
                · show Blk _ _ _ _
                  have hb := HB4.out
                  rw [nums_set] at hb
                  exact hb
                · exact (below_then HBB.out HB3.out).trans (below_of_grown HG4.out (Nat.le_refl _) (below_then HBB.out HB3.out).size)
                · show _ = _
                  rw [← HE.out, ← Nat.add_assoc, nrun]
                  unfold nstep
                  dsimp only
                  rw [hmod.out i (by omega), ← HQX.out, ← HXX.out, ← HP.out]
              case measure => simp [intOf]
            · obtain rfl : I = 0 := by omega
              have hz1 : z = -1 := by omega
              clear hlt2 hI hz
              go_wp2
              go_roundw
              case rel =>
                refine ⟨j, a, (j : Int) - 1, xs, by omega, rfl, rfl, rfl, ha, HX, HB, HBB, ?_⟩
                show _ = _
                rw [← HE.out, HNJ.out]
                rfl
              case measure => simp [intOf]
        · obtain rfl : J = 0 := by omega
          have hz1' : z = -1 := by omega
          have hfin : openN s n bs = (a, xs) := by rw [← HE.out]; rfl
          clear hlt hJ hz HE
          have HFIN := Lib.hid hfin
          obtain ⟨rb, hrb⟩ : ∃ rb, rb = decide (a = 12008468691120727718) := ⟨_, rfl⟩
          have hbeq : ((a : Int) == 12008468691120727718) = rb := by
            rw [hrb, Bool.eq_iff_iff, beq_iff_eq, decide_eq_true_eq]
            omega
          have hrx : Reads wr.drew 1 (some ⟨w.heap.size, 0, none⟩) n (nums xs n) := by
            have := HB.out.reads 1 n 0 (by simp [nums_len])
            have e : ((nums xs n).toArray.toList.drop (0 * 1)).take (n * 1) = nums xs n := by
              simp only [Nat.zero_mul, List.drop_zero, Nat.mul_one]
              exact List.take_of_length_le (by rw [nums_len]; exact Nat.le_refl _)
            rw [e] at this
            simpa using this.below ((Below.refl wr.heap.size wr).drew) (Nat.le_refl _)
          have HRX := Lib.hid hrx
          have HRB2 := Lib.hid hrb
          have HBD := Lib.hid HBB.out.drew
          have hww := Lib.hid (wrapWords_calls wr.drew a n (some ⟨w.heap.size, 0, none⟩) n xs ha HX.out HRX.out (by omega))
          have hwl : Hid ((b8 a ++ cat xs n).length = 8 * n + 8) := Lib.hid (by rw [List.length_append, b8_length, cat_len]; omega)
          have hdr : Hid (List.drop (8 * 1) (bys (b8 a ++ cat xs n)) = bys (cat xs n)) := Lib.hid (by
            rw [bys_append, Nat.mul_one, List.drop_append, List.drop_eq_nil_of_le (by simp [bys, b8_length])]
            simp [bys, b8_length])
          clear hrx hrb hfin
          go_wp2
          go_region_with (first
            | (go_at_call 30; refine hww.out.mono ?_; rintro e w1 ⟨v1, rfl, ho1, hB1⟩; obtain ⟨T, tc, rfl, htc, htr⟩ := opn ho1 hwl.out; obtain ⟨T2, hcut2, hrd2⟩ := cut_l (P := Try.prog) Try.underlying22 hi hz1 .i64 htr htc 8 8 rfl (by omega); rw [Nat.add_sub_cancel] at hcut2 hrd2; rw [hdr.out] at hrd2; have HRD2 := Lib.hid hrd2; have HB1 := Lib.hid (below_then HBD.out hB1); clear ho1 hB1 htc htr hrd2)
            | (go_at_call 31; refine (wrapFirst_calls _).mono ?_; rintro e w2 ⟨rfl, rfl⟩))
          all_goals go_wp2
          all_goals exact bodyPost_ret (v := .tuple #[.slice T2 (8 * n) (tc - 8), .bool rb]) (by kernel_rfl) rfl ⟨T2, tc - 8, by rw [HFIN.out, HRB2.out], by rw [HFIN.out]; exact HRD2.out, HB1.out⟩
end Go.Proofs.Ytakfblfepgigbaa.Wr
