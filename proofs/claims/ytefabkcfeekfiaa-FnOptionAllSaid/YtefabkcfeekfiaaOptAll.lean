/- The walk of FnOptionAll: it answers true; no condition. -/
import Derived.Test.YtefabkcfeekfiaaOptLaw
import Derived.Test.YtefabkcfeekfiaaPop
import Derived.Test.YtefabkcfeekfiaaOptAllFns
set_option linter.unusedVariables false
set_option linter.unusedSimpArgs false
namespace Go.Proofs.Ytefabkcfeekfiaa.Opt
open Go.RowKit Go.Proofs.Ytefabkcfeekfiaa.K Go.Proofs.Ytefabkcfeekfiaa.Pop
set_option maxRecDepth 100000 in
set_option maxHeartbeats 2000000 in
theorem FnOptionAll_calls (w : World) (s a : Nat) (hs : s < 18446744073709551616) (ha : a < 256) :
    Calls Try.prog 4 #[.int .u64 s, .int .u8 a] w fun e w' => e = .returned (.bool true) ∧ Below w.heap.size w w' := by
  obtain ⟨i0, hi, hz0, hz1, hz2⟩ := info_parts info_step
  obtain ⟨b, hbdef⟩ : ∃ b, b = 2 ^ (a % 64) := ⟨_, rfl⟩
  have hb64 : b < 18446744073709551616 := by
    have : (2 : Nat) ^ (a % 64) ≤ 2 ^ 63 := Nat.pow_le_pow_right (by decide) (by omega)
    omega
  have hb0 : 0 < b := by rw [hbdef]; exact Nat.two_pow_pos _
  have hw : IntKind.u64.wrap ((2 : Int) ^ (a % 64)) = (b : Int) := by
    rw [← wrapN_small b hb64, hbdef]; simp
  clear hbdef
  go_enter Try.func4, Try.ntmps4
  go_wp2
  simp only [hw]
  clear hw
  go_loopw [6, 27] (fun v i wr => ∃ k : Nat, k ≤ 64 ∧ i = .int .i64 k ∧ Hid (wr.ownsRow w.heap.size 29 2 v (5 + k) (stvs (pre s b ++ asks k))) ∧ Below w.heap.size w wr) (fun _ i _ => 64 - (intOf i).toNat)
  case atStart => exact ⟨0, Nat.zero_le _, rfl, own_lit w _ 2 5 _ rfl (by simp [maxLen]), below_alloc' (Below.refl _ _) _⟩
  case round =>
    obtain ⟨k, hk, rfl, ho, hB⟩ := hrel
    by_cases hlt : k < 64
    · obtain ⟨p, hp⟩ : ∃ p, p = 2 ^ k := ⟨_, rfl⟩
      have hp64 : p < 18446744073709551616 := by
        have : (2 : Nat) ^ k ≤ 2 ^ 63 := Nat.pow_le_pow_right (by decide) (by omega)
        omega
      have hwk : IntKind.u64.wrap ((2 : Int) ^ k) = (p : Int) := by
        rw [← wrapN_small p hp64, hp]; simp
      have HP := Lib.hid hp
      clear hp
      go_wp2_with (at_builtin; refine wpList_append_any _ rfl (.tmp 30) (.tmp 34) 22 rfl w.heap.size 29 i0 (.agg #[.int .i64 0, .int .u64 0]) 2 16 Try.underlying22 hi hz0 hz1 hz2 rfl (by decide) u6 (5 + k) (stvs (pre s b ++ asks k)) rfl (own_below ho.out (below_alloc' (Below.refl _ _) _)) (some ⟨wr.heap.size, 0, none⟩) 1 1 [.int .i64 4, .int .u64 p] rfl (reads_lit wr 2 1 _ #[.int .i64 4, .int .u64 p] rfl rfl 29) (fun u hu => by simp at hu; rcases hu with rfl | rfl <;> rfl) (by unfold maxLen; omega) (by omega) (size_alloc_le hB _) ?_; intro v1 w1 ho1 hg1 hat1; have hB1 := (below_alloc' hB _).grown hg1 (size_alloc_le hB _) (fun q hq => own_block_ge ho.out q hq); have ho1 := Lib.hid ho1; have hg1 := Lib.hid hg1; clear hat1)
      go_roundw
      case rel =>
        refine ⟨k + 1, by omega, by go_num, ?_, hB1⟩
        have e : stvs (pre s b ++ asks (k + 1)) = stvs (pre s b ++ asks k) ++ [.int .i64 4, .int .u64 p] := by
          rw [asks_succ, ← List.append_assoc, stvs_append _ [_], HP.out]; rfl
        rw [e, show 5 + (k + 1) = 5 + k + 1 from rfl]
        exact ho1.out
      case measure => simp [intOf]; omega
    · obtain rfl : k = 64 := by omega
      go_wp2_with (at_builtin; refine wpList_append_any _ rfl (.tmp 37) (.tmp 39) 22 rfl w.heap.size 29 i0 (.agg #[.int .i64 0, .int .u64 0]) 2 16 Try.underlying22 hi hz0 hz1 hz2 rfl (by decide) u6 (5 + 64) (stvs (pre s b ++ asks 64)) rfl (own_below ho.out (below_alloc' (Below.refl _ _) _)) (some ⟨wr.heap.size, 0, none⟩) 1 1 [.int .i64 2, .int .u64 0] rfl (reads_lit wr 2 1 _ #[.int .i64 2, .int .u64 0] rfl rfl 29) (fun u hu => by simp at hu; rcases hu with rfl | rfl <;> rfl) (by unfold maxLen; omega) (by omega) (size_alloc_le hB _) ?_)
      intro v1 w1 ho1 hg1 hat1
      have hB1 := (below_alloc' hB _).grown hg1 (size_alloc_le hB _) (fun q hq => own_block_ge ho.out q hq)
      have e : stvs (pre s b ++ asks 64) ++ [.int .i64 2, .int .u64 0] = stvs (allS s b) := by
        unfold allS
        rw [← List.append_assoc, stvs_append _ [_]]; rfl
      rw [e] at ho1
      obtain ⟨A1, c1, rfl, hc1, hr1⟩ := own_form ho1
      have hO := Lib.hid (Optioned_calls w1 A1 (allS s b) 70 c1 hr1 (by omega) (allS_lt s b hs hb64))
      clear ho1 hg1 hat1 e hr1 ho hB
      go_wp2_with fail
      refine hO.out.mono ?_
      rintro e w2 ⟨v, u, rfl, ho2, ho3, hb2⟩
      have hB2 := below_then hB1 hb2
      obtain ⟨A2, c2, rfl, hc2, hr2⟩ := own_form ho2
      obtain ⟨A3, c3, rfl, hc3, hr3⟩ := own_form ho3
      obtain ⟨ad2, rfl, _, hcell2⟩ := hr2.2 (by omega)
      obtain ⟨ad3, rfl, _, hcell3⟩ := hr3.2 (by omega)
      have v69 : w2.cell? ⟨ad2.block, ad2.off + 69, none⟩ = _ := hcell2 69 _ (ovals_get (allS s b) 70 69 (by omega))
      have v3 : w2.cell? ⟨ad2.block, ad2.off + 3, none⟩ = _ := hcell2 3 _ (ovals_get (allS s b) 70 3 (by omega))
      have a2 : w2.cell? ⟨ad3.block, ad3.off + 2, none⟩ = _ := hcell3 2 _ (oasks_get (allS s b) 70 2 (by omega))
      have a4 : w2.cell? ⟨ad3.block, ad3.off + 4, none⟩ = _ := hcell3 4 _ (oasks_get (allS s b) 70 4 (by omega))
      rw [ost_70] at v69
      simp only [Int.ofNat_zero, Int.natCast_zero] at v69
      rw [ost_4] at v3
      have e2 : oask (ost (allS s b) 2) ((allS s b).getD 2 (0, 0)) = true := by
        rw [ost_2]
        show (s ||| b) &&& b == b
        rw [or_and_self]; simp
      have e4 : oask (ost (allS s b) 4) ((allS s b).getD 4 (0, 0)) = false := by
        rw [ost_4]
        show (ov s b &&& b == b) = false
        rw [ov_and s b hb64, beq_eq_false_iff_ne]
        omega
      rw [e2] at a2
      rw [e4] at a4
      have hn64 : bits .andNot .u64 (s : Int) (b : Int) = ((ov s b : Nat) : Int) := by rw [u64_andNot_nat s b hs hb64, ov_eq s b hb64]
      obtain ⟨i1, hi1, _, hs1, _⟩ := info_parts info_bool
      obtain ⟨A4, hcut, hr4⟩ := cut_lh (P := Try.prog) Try.underlying32 hi1 hs1 .i64 .i64 hr3 hc3 5 69 5 69 rfl rfl (by omega) (by omega)
      obtain ⟨ad4, rfl, _, hcell4⟩ := hr4.2 (by omega)
      have hcell4' : ∀ k, k < 64 → w2.cell? (ad4.add k) = some (.bool (decide (ov s b / 2 ^ k % 2 = 1))) := by
        intro k hk
        refine hcell4 k _ ?_
        rw [Nat.mul_one, Nat.mul_one, List.getElem?_drop, List.getElem?_take, if_pos (by omega), oasks_get _ _ _ (by omega), ost_5 s b k (by omega), at_5 s b k hk]
        show some (Value.bool (ov s b &&& 2 ^ k == 2 ^ k)) = _
        rw [bit_ask]
      have hov := ov_lt s b hs hb64
      obtain ⟨x, hx⟩ : ∃ x, x = ov s b := ⟨_, rfl⟩
      rw [← hx] at hn64 v3 hov hcell4'
      have HC := Lib.hid hcell4'
      clear hcell4' hcell2 hcell3 hcell4 e2 e4 ho2 ho3 hr2 hr3 hr4 hO hb2 hx hb0 hlt hk
      have hp := Lib.hid (OnesCount64_calls w2 x hov)
      go_wp2
      go_loop [10, 84] (fun o i => ∃ k : Nat, k ≤ 64 ∧ i = .int .i64 k ∧ ∃ q : Nat, o = .int .i64 q ∧ q ≤ k ∧ Hid (q = bitsN k x)) (fun _ i => 64 - (intOf i).toNat)
      case atStart => exact ⟨0, Nat.zero_le _, rfl, 0, rfl, Nat.le_refl _, rfl⟩
      case round =>
        obtain ⟨k, hk, rfl, q, rfl, hqk, hq⟩ := hrel
        by_cases hlt : k < 64
        · have hc := HC.out k hlt
          have htop := bitsN_top k x
          have HT := Lib.hid htop
          clear htop
          by_cases hbit : x / 2 ^ k % 2 = 1
          · rw [decide_eq_true hbit] at hc
            have HB := Lib.hid hbit
            clear hbit
            go_wp2
            go_round
            case rel => exact ⟨k + 1, by omega, by go_num, q + 1, by go_num, by omega, by show _ = _; rw [HT.out, HB.out, ← hq.out]⟩
            case measure => simp [intOf]; omega
          · rw [decide_eq_false hbit] at hc
            have HB := Lib.hid hbit
            clear hbit
            go_wp2
            go_round
            case rel => exact ⟨k + 1, by omega, by go_num, q, rfl, by omega, by show _ = _; rw [HT.out, ← hq.out]; have := HB.out; omega⟩
            case measure => simp [intOf]; omega
        · obtain rfl : k = 64 := by omega
          have hp2 := hp.out
          rw [← hq.out] at hp2
          have HP2 := Lib.hid hp2
          clear hp2
          go_wp2_with fail
          refine HP2.out.mono ?_
          rintro e w3 ⟨rfl, rfl⟩
          go_wp2_with fail
          refine (optionAwake_calls _).mono ?_
          rintro e w4 ⟨rfl, hb4⟩
          go_wp2
          go_ret
          exact ⟨rfl, below_then hB2 hb4⟩
end Go.Proofs.Ytefabkcfeekfiaa.Opt
