/- The walk of the law FnWrapWordOrder; no condition on the lengths. -/
import Derived.Test.YtakfblfepgigbaaApart
import Derived.Deep.RegionLaw
set_option linter.unusedVariables false
set_option linter.unusedSimpArgs false
namespace Go.Proofs.Ytakfblfepgigbaa.Wr
open Go.RowKit Go.Proofs.Ytakfblfepgigbaa.K Go.Proofs.Ytakfblfepgigbaa.Own
theorem opo {b n : Nat} {w : World} {v : Value} {l : List UInt8} (h : OwnB b w v l) (hl : l.length = n) : ∃ A c, v = .slice A n c ∧ w.ownsRow b 5 1 (.slice A n c) n (bys l) := by
  subst hl
  obtain ⟨A, c, rfl, hc, ho⟩ := h
  exact ⟨A, c, rfl, ho⟩
set_option maxRecDepth 100000 in
set_option maxHeartbeats 2000000 in
theorem FnWrapWordOrder_calls (w : World) (s m : Nat) (A : Option Addr) (c : Nat) (bs : List UInt8) (tn : Nat) (hs : s < 18446744073709551616) (hrb : RB w A m bs) (hcap : m ≤ c) (htn : tn < 256) :
    Calls Try.prog 8 #[.int .u64 s, .slice A m c, .int .u8 tn] w fun e w' => e = .returned (.bool true) ∧ Below w.heap.size w w' := by
  have HRB := Lib.hid hrb
  have HC := Lib.hid hcap
  clear hrb hcap
  by_cases h1 : m > 2147483647
  · go_enter Try.func8, Try.ntmps8
    go_wp2
    go_ret
    exact ⟨rfl, Below.refl _ _⟩
  have h1i : ¬ (2147483647 : Int) < (m : Int) := by omega
  obtain ⟨n, hn⟩ : ∃ n, n = bs.length / 8 := ⟨_, rfl⟩
  obtain ⟨k, hk⟩ : ∃ k, k = bs.length / 8 * 8 := ⟨_, rfl⟩
  have hw1 := wrapWhole_calls w m A c bs HRB.out HC.out (by omega)
  rw [← hk] at hw1
  have hkn : k = 8 * n := by omega
  have hwl : (whole bs).length = k := by rw [whole_len, hk]
  have hf1 : fine bs = (decide (16 ≤ k) && decide (k ≤ 400)) := by rw [fine, hk]
  clear hk hn
  cases hfb : fine bs with
  | false =>
    rw [hfb] at hw1
    have HW1 := Lib.hid hw1
    clear hfb hf1 hw1 hkn hwl
    go_enter Try.func8, Try.ntmps8
    go_wp2_with (first
      | (go_at_call 16; refine HW1.out.mono ?_; rintro e w1 ⟨B1, d1, rfl, hc1, hr1, hB1⟩; have HB1 := Lib.hid hB1; clear hr1 hB1 hc1)
      | (go_at_call 17; refine (wrapAwake_calls w1).mono ?_; rintro e w9 ⟨rfl, hB9⟩; have HB9 := Lib.hid (below_then HB1.out hB9); clear hB9))
    go_ret
    exact ⟨rfl, HB9.out⟩
  | true =>
    obtain ⟨i0, hi, hz0, hz1, hz2⟩ := info_parts info_u8
    rw [hfb] at hw1
    rw [hfb] at hf1
    simp only [Bool.true_eq, Bool.and_eq_true, decide_eq_true_eq] at hf1
    have hn1 : 1 ≤ n := by omega
    obtain ⟨r, hr⟩ : ∃ r, r = tn % n := ⟨_, rfl⟩
    have hrn : r < n := by rw [hr]; exact Nat.mod_lt _ hn1
    obtain ⟨kk, hkk⟩ : ∃ kk, kk = r * 8 := ⟨_, rfl⟩
    have hri : (tn : Int) % (n : Int) = (r : Int) := by rw [hr, Int.natCast_emod]
    have hk8 : (k : Int) / 8 = (n : Int) := by omega
    have hkki : (r : Int) * 8 = (kk : Int) := by omega
    have hn0 : ((n : Int) == 0) = false := beq_eq_false_iff_ne.2 (by omega)
    have hkkk : kk ≤ k := by omega
    obtain ⟨turned, htu⟩ : ∃ x, x = (whole bs).drop kk ++ (whole bs).take kk := ⟨_, rfl⟩
    have htl : turned.length = k := by
      rw [htu, List.length_append, List.length_drop, List.length_take, hwl]
      omega
    have HN1 := Lib.hid hn1
    have hn2 : n ≤ 1000 := by omega
    have HN2 := Lib.hid hn2
    have HBK : Hid (k ≤ 140737488355328) := Lib.hid (by omega)
    have HBK8 : Hid (k + 8 ≤ 140737488355328) := Lib.hid (by omega)
    have HKN8 : Hid (k + 8 = 8 * n + 8) := Lib.hid (by omega)
    have HK400 : Hid (k ≤ 400) := Lib.hid hf1.2
    have HTL2 : Hid (turned.length = 8 * n) := Lib.hid (by rw [htl, hkn])
    have HWTL : Hid ((wrapB (encB s) n turned).length = k + 8) := Lib.hid (by rw [wrap_len s n turned hn1 HTL2.out]; omega)
    obtain ⟨t, ht⟩ : ∃ t, t = (whole bs == turned) := ⟨_, rfl⟩
    have hinj := wrap_inj s n n (whole bs) turned hn1 hn1 (by rw [hwl, hkn]) HTL2.out
    rw [← ht] at hinj
    have HINJ := Lib.hid hinj
    have HT := Lib.hid ht
    have HKN := Lib.hid hkn
    have HWL := Lib.hid hwl
    have HTL := Lib.hid htl
    have HTU := Lib.hid htu
    have HW1 := Lib.hid hw1
    clear hfb hf1 hw1 hkn hwl htl htu hinj ht hr hkk
    go_enter Try.func8, Try.ntmps8
    go_wp2_with (go_at_call 16; refine HW1.out.mono ?_; rintro e w1 ⟨B1, d1, rfl, hc1, hr1, hB1⟩; have HR1 := Lib.hid hr1; have HB1 := Lib.hid hB1; have HC1 := Lib.hid hc1; clear hr1 hB1 hc1)
    obtain ⟨Al, hcl, hrl⟩ := cut_l (P := Try.prog) Try.underlying22 hi hz1 .i64 HR1.out HC1.out (kk : Int) kk rfl hkkk
    obtain ⟨Ah, hch, hrh⟩ := cut_h (P := Try.prog) Try.underlying22 hi hz1 .i64 HR1.out HC1.out (kk : Int) kk rfl hkkk
    have hrl2 : RB w1.drew Al (k - kk) ((whole bs).drop kk) := by
      have : RB w1 Al (k - kk) ((whole bs).drop kk) := by
        show Reads _ _ _ _ _
        simpa [bys] using hrl
      exact this.below ((Below.refl w1.heap.size w1).drew) (Nat.le_refl _)
    have hrh2 : RB w1.drew Ah kk ((whole bs).take kk) := by
      have : RB w1 Ah kk ((whole bs).take kk) := by
        show Reads _ _ _ _ _
        simpa [bys, List.map_take] using hrh
      exact this.below ((Below.refl w1.heap.size w1).drew) (Nat.le_refl _)
    have XK1 := Lib.hid (HR1.out.below ((Below.refl w1.heap.size w1).drew) (Nat.le_refl _))
    have HRL := Lib.hid hrl2
    have HRH := Lib.hid hrh2
    have HB1d := Lib.hid HB1.out.drew
    clear hrl hrh hrl2 hrh2
    have HDL : Hid (((whole bs).drop kk).length = k - kk) := Lib.hid (by rw [List.length_drop, HWL.out])
    go_region_law (first
      | (rw [if_pos (by rfl)]; refine wp_append_any _ _ _ 22 rfl w1.heap.size 5 i0 (.int .u8 0) 1 1 Try.underlying22 hi hz0 hz1 hz2 rfl (by decide) _ (k - kk) (bys ((whole bs).drop kk)) rfl HO2.out Ah kk d1 (bys ((whole bs).take kk)) rfl HRH2.out (bys_one _) (by have := HK400.out; unfold maxLen; omega) (by have := HK400.out; omega) HS2.out ?_; intro v3 w3 ho3 hg3 hat3; have hB3 := HB12.out.trans (Below.grown (Below.refl w1.heap.size w2) hg3 HS2.out (fun q hq => own_block_ge HO2.out q hq)); rw [← bys_append, ← HTU.out, Nat.sub_add_cancel hkkk] at ho3; obtain ⟨T3, t3, rfl, hc3, hr3⟩ := opn (OwnB.mk ho3) HTL.out; have TR3 := Lib.hid hr3; have XK3 := Lib.hid (XK1.out.below hB3 (Nat.le_refl _)); have HB3 := Lib.hid (HB1d.out.trans (hB3.mono HB1.out.size)); clear ho3 hg3 hat3 hr3 hc3 hB3 HB12 HO2 HRH2 HS2)
      | (rw [if_pos (by rfl)]; go_simp; go_at_call 15; refine (partOwn_calls w1.drew Al ((whole bs).drop kk) (k - kk) (d1 - kk) HRL.out (by have := HBK.out; omega)).mono ?_; rintro e w2 ⟨v2, rfl, ho2, hB2⟩; obtain ⟨T2, t2, rfl, ho2b⟩ := opo ho2 HDL.out; have HO2 : Hid (w2.ownsRow w1.heap.size 5 1 (.slice T2 (k - kk) t2) (k - kk) (bys ((whole bs).drop kk))) := Lib.hid ho2b; have HB12 : Hid (Below w1.heap.size w1.drew w2) := Lib.hid hB2; have HS2 : Hid (w1.heap.size ≤ w2.heap.size) := Lib.hid hB2.size; have HRH2 := Lib.hid (HRH.out.below hB2 (Nat.le_refl _)); clear ho2 ho2b hB2))
    go_wp2_with (first
      | (go_at_call 15; have hg := HB3.out; clear hg; refine (partOwn_calls w3 B1 (whole bs) (k) d1 XK3.out HBK.out).mono ?_; rintro e w4 ⟨v4, rfl, ho4, hB4⟩; obtain ⟨E4, e4, rfl, hc4, hr4⟩ := opn ho4 HWL.out; have EE4 := Lib.hid hr4; have HB4 := Lib.hid (below_then HB3.out hB4); have XK4 := Lib.hid (XK3.out.below hB4 (Nat.le_refl _)); have TR4 := Lib.hid (TR3.out.below hB4 (Nat.le_refl _)); clear ho4 hr4 hB4 hc4 HB3 XK3 TR3)
      | (go_at_call 18; have hg := HB4.out; clear hg; refine (Wrapped_yes w4 s k n E4 e4 (whole bs) hs HN1.out HN2.out HKN.out EE4.out).mono ?_; rintro e w5 ⟨X5, x5, rfl, hc5, hr5, hB5⟩; have HB5 := Lib.hid (below_then HB4.out hB5); have XK5 := Lib.hid (XK4.out.below hB5 (Nat.le_refl _)); have TR5 := Lib.hid (TR4.out.below hB5 (Nat.le_refl _)); have WA5 := Lib.hid hr5; clear hr5 hB5 hc5 HB4 EE4 XK4 TR4)
      | (go_at_call 15; have hg := HB5.out; clear hg; refine (partOwn_calls w5 T3 (turned) (k) t3 TR5.out HBK.out).mono ?_; rintro e w6 ⟨v6, rfl, ho6, hB6⟩; obtain ⟨E6, e6, rfl, hc6, hr6⟩ := opn ho6 HTL.out; have EE6 := Lib.hid hr6; have HB6 := Lib.hid (below_then HB5.out hB6); have XK6 := Lib.hid (XK5.out.below hB6 (Nat.le_refl _)); have TR6 := Lib.hid (TR5.out.below hB6 (Nat.le_refl _)); have WA6 := Lib.hid (WA5.out.below hB6 (Nat.le_refl _)); clear ho6 hr6 hB6 hc6 HB5 XK5 TR5 WA5)
      | (go_at_call 18; have hg := HB6.out; clear hg; refine (Wrapped_yes w6 s k n E6 e6 (turned) hs HN1.out HN2.out HKN.out EE6.out).mono ?_; rintro e w7 ⟨X7, x7, rfl, hc7, hr7, hB7⟩; have HB7 := Lib.hid (below_then HB6.out hB7); have XK7 := Lib.hid (XK6.out.below hB7 (Nat.le_refl _)); have TR7 := Lib.hid (TR6.out.below hB7 (Nat.le_refl _)); have WA7 := Lib.hid (WA6.out.below hB7 (Nat.le_refl _)); have WB7 := Lib.hid hr7; clear hr7 hB7 hc7 HB6 EE6 XK6 TR6 WA6)
      | (go_at_call 15; have hg := HB7.out; clear hg; refine (partOwn_calls w7 X7 (wrapB (encB s) n turned) (k + 8) x7 WB7.out HBK8.out).mono ?_; rintro e w8 ⟨v8, rfl, ho8, hB8⟩; obtain ⟨E8, e8, rfl, hc8, hr8⟩ := opn ho8 HWTL.out; have EE8 := Lib.hid hr8; have HB8 := Lib.hid (below_then HB7.out hB8); have XK8 := Lib.hid (XK7.out.below hB8 (Nat.le_refl _)); have TR8 := Lib.hid (TR7.out.below hB8 (Nat.le_refl _)); have WA8 := Lib.hid (WA7.out.below hB8 (Nat.le_refl _)); have WB8 := Lib.hid (WB7.out.below hB8 (Nat.le_refl _)); clear ho8 hr8 hB8 hc8 HB7 XK7 TR7 WA7 WB7)
      | (go_at_call 19; have hg := HB8.out; clear hg; refine (Unwrapped_back w8 s (k + 8) n E8 e8 turned hs HN1.out HN2.out HTL2.out HKN8.out EE8.out).mono ?_; rintro e w9 ⟨X9, x9, rfl, hc9, hr9, hB9⟩; have HB9 := Lib.hid (below_then HB8.out hB9); have XK9 := Lib.hid (XK8.out.below hB9 (Nat.le_refl _)); have TR9 := Lib.hid (TR8.out.below hB9 (Nat.le_refl _)); have WA9 := Lib.hid (WA8.out.below hB9 (Nat.le_refl _)); have WB9 := Lib.hid (WB8.out.below hB9 (Nat.le_refl _)); have UN9 := Lib.hid hr9; clear hr9 hB9 hc9 HB8 EE8 XK8 TR8 WA8 WB8)
      | (go_at_call 13; have hg := UN9.out; clear hg; have hps := PartSame_calls w9 X9 T3 turned turned (8 * n) x9 k t3 UN9.out TR9.out; rw [beq_self_eq_true] at hps; refine hps.mono ?_; clear hps; rintro e w10 ⟨rfl, hw10⟩; have XK10 := Lib.hid (hw10 ▸ XK9.out); have TR10 := Lib.hid (hw10 ▸ TR9.out); have WA10 := Lib.hid (hw10 ▸ WA9.out); have WB10 := Lib.hid (hw10 ▸ WB9.out); have HB10 : Hid (Below w.heap.size w w10) := hw10 ▸ HB9; clear hw10 UN9 XK9 TR9 WA9 WB9 HB9)
      | (go_at_call 13; have hg := WA10.out; clear hg; have hps := PartSame_calls w10 X5 X7 _ _ (k + 8) x5 (k + 8) x7 WA10.out WB10.out; rw [HINJ.out] at hps; refine hps.mono ?_; clear hps; rintro e w11 ⟨rfl, hw11⟩; have XK11 := Lib.hid (hw11 ▸ XK10.out); have TR11 := Lib.hid (hw11 ▸ TR10.out); have HB11 : Hid (Below w.heap.size w w11) := hw11 ▸ HB10; clear hw11 XK10 TR10 WA10 WB10 HB10)
      | (go_at_call 13; have hg := XK11.out; clear hg; have hps := PartSame_calls w11 B1 T3 (whole bs) turned k d1 k t3 XK11.out TR11.out; rw [← HT.out] at hps; refine hps.mono ?_; clear hps; rintro e w12 ⟨rfl, hw12⟩; have HB12 : Hid (Below w.heap.size w w12) := hw12 ▸ HB11; clear hw12 XK11 TR11 HB11)
      | (go_at_call 17; have hg := HB12.out; clear hg; refine (wrapAwake_calls w12).mono ?_; rintro e w13 ⟨rfl, hB13⟩; have HB13 := Lib.hid (below_then HB12.out hB13); clear hB13))
    go_ret
    exact ⟨rfl, HB13.out⟩
end Go.Proofs.Ytakfblfepgigbaa.Wr
