/- Walks of wrapWhole and of the law FnWrapApartKeys; no condition on the lengths. -/
import Derived.Test.YtakfblfepgigbaaAwake
set_option linter.unusedVariables false
set_option linter.unusedSimpArgs false
namespace Go.Proofs.Ytakfblfepgigbaa.Wr
open Go.RowKit Go.Proofs.Ytakfblfepgigbaa.K Go.Proofs.Ytakfblfepgigbaa.Own
def whole (bs : List UInt8) : List UInt8 := bs.take (bs.length / 8 * 8)
def fine (bs : List UInt8) : Bool := decide (16 ≤ bs.length / 8 * 8) && decide (bs.length / 8 * 8 ≤ 400)
theorem whole_len (bs : List UInt8) : (whole bs).length = bs.length / 8 * 8 := by
  rw [whole, List.length_take]
  omega
set_option maxRecDepth 100000 in
set_option maxHeartbeats 2000000 in
theorem wrapWhole_calls (w : World) (m : Nat) (A : Option Addr) (c : Nat) (bs : List UInt8) (hrb : RB w A m bs) (hcap : m ≤ c) (hm : m ≤ 2147483647) :
    Calls Try.prog 16 #[.slice A m c] w fun e w' => ∃ A' c', e = .returned (.tuple #[.slice A' (bs.length / 8 * 8) c', .bool (fine bs)]) ∧ bs.length / 8 * 8 ≤ c' ∧ RB w' A' (bs.length / 8 * 8) (whole bs) ∧ Below w.heap.size w w' := by
  obtain ⟨i0, hi, hz0, hz1, hz2⟩ := info_parts info_u8
  have hlen := hrb.len
  obtain ⟨q, hq⟩ : ∃ q, q = m / 8 := ⟨_, rfl⟩
  obtain ⟨k, hk⟩ : ∃ k, k = q * 8 := ⟨_, rfl⟩
  have hqi : (m : Int) / 8 = (q : Int) := by omega
  have hki : (q : Int) * 8 = (k : Int) := by omega
  have hkm : k ≤ m := by omega
  have hwq : bs.length / 8 * 8 = k := by rw [← hlen]; omega
  have hfin : fine bs = (decide (16 ≤ k) && decide (k ≤ 400)) := by rw [fine, hwq]
  rw [hwq, hfin]
  obtain ⟨A', hcut, hrd⟩ := cut_h (P := Try.prog) Try.underlying22 hi hz1 .i64 hrb hcap (k : Int) k rfl hkm
  have hrd2 : RB w A' k (whole bs) := by
    show Reads _ _ _ _ _
    rw [whole, hwq]
    simpa [bys, List.map_take] using hrd
  have hwl : (whole bs).length = k := by rw [whole_len, hwq]
  have HRD := Lib.hid hrd2
  have HWL := Lib.hid hwl
  have hb : k ≤ 140737488355328 := by omega
  clear hrd hrd2 hwl hwq hfin hrb hq hk hlen
  have hdec : decide ((k : Int) ≤ 400) = decide (k ≤ 400) := by
    rw [decide_eq_decide]
    omega
  have HDEC := Lib.hid hdec
  clear hdec
  by_cases h16 : 16 ≤ k
  · have h16i : (16 : Int) ≤ (k : Int) := by omega
    go_enter Try.func16, Try.ntmps16
    go_wp2_with (go_at_call 15; refine (partOwn_calls w A' (whole bs) k c HRD.out hb).mono ?_; rintro e w1 ⟨v1, rfl, ho1, hB1⟩; obtain ⟨A1, c1, rfl, hc1, hr1⟩ := opn ho1 HWL.out; have HR1 := Lib.hid hr1; have HB1 := Lib.hid hB1; have HC1 := Lib.hid hc1; clear ho1 hr1 hB1 hc1)
    exact bodyPost_ret (v := .tuple #[.slice A1 k c1, .bool (decide ((k : Int) ≤ 400))]) (by kernel_rfl) rfl ⟨A1, c1, by rw [HDEC.out]; simp [h16], HC1.out, HR1.out, HB1.out⟩
  · have h16i : ¬ (16 : Int) ≤ (k : Int) := by omega
    go_enter Try.func16, Try.ntmps16
    go_wp2_with (go_at_call 15; refine (partOwn_calls w A' (whole bs) k c HRD.out hb).mono ?_; rintro e w1 ⟨v1, rfl, ho1, hB1⟩; obtain ⟨A1, c1, rfl, hc1, hr1⟩ := opn ho1 HWL.out; have HR1 := Lib.hid hr1; have HB1 := Lib.hid hB1; have HC1 := Lib.hid hc1; clear ho1 hr1 hB1 hc1)
    exact bodyPost_ret (v := .tuple #[.slice A1 k c1, .bool false]) (by kernel_rfl) rfl ⟨A1, c1, by simp [h16], HC1.out, HR1.out, HB1.out⟩
set_option maxRecDepth 100000 in
set_option maxHeartbeats 2000000 in
theorem FnWrapApartKeys_calls (w : World) (s m : Nat) (A : Option Addr) (c : Nat) (bs : List UInt8) (m2 : Nat) (A2 : Option Addr) (c2 : Nat) (bs2 : List UInt8) (hs : s < 18446744073709551616) (hrb : RB w A m bs) (hcap : m ≤ c) (hrb2 : RB w A2 m2 bs2) (hcap2 : m2 ≤ c2) :
    Calls Try.prog 5 #[.int .u64 s, .slice A m c, .slice A2 m2 c2] w fun e w' => e = .returned (.bool true) ∧ Below w.heap.size w w' := by
  have HRB := Lib.hid hrb
  have HRB2 := Lib.hid hrb2
  have HC := Lib.hid hcap
  have HC2 := Lib.hid hcap2
  clear hrb hrb2 hcap hcap2
  by_cases h1 : m > 2147483647
  · go_enter Try.func5, Try.ntmps5
    go_wp2
    go_ret
    exact ⟨rfl, Below.refl _ _⟩
  by_cases h2 : m2 > 2147483647
  · have h1i : ¬ (2147483647 : Int) < (m : Int) := by omega
    go_enter Try.func5, Try.ntmps5
    go_wp2
    go_ret
    exact ⟨rfl, Below.refl _ _⟩
  have h1i : ¬ (2147483647 : Int) < (m : Int) := by omega
  have h2i : ¬ (2147483647 : Int) < (m2 : Int) := by omega
  obtain ⟨n, hn⟩ : ∃ n, n = bs.length / 8 := ⟨_, rfl⟩
  obtain ⟨k, hk⟩ : ∃ k, k = bs.length / 8 * 8 := ⟨_, rfl⟩
  obtain ⟨n2, hn2⟩ : ∃ n, n = bs2.length / 8 := ⟨_, rfl⟩
  obtain ⟨k2, hk2⟩ : ∃ k, k = bs2.length / 8 * 8 := ⟨_, rfl⟩
  have hw1 := wrapWhole_calls w m A c bs HRB.out HC.out (by omega)
  rw [← hk] at hw1
  have hw2 := fun w1 (hb : Below w.heap.size w w1) => wrapWhole_calls w1 m2 A2 c2 bs2 (HRB2.out.below hb (Nat.le_refl _)) HC2.out (by omega)
  rw [← hk2] at hw2
  have hkn : k = 8 * n := by omega
  have hkn2 : k2 = 8 * n2 := by omega
  have hwl : (whole bs).length = k := by rw [whole_len, hk]
  have hwl2 : (whole bs2).length = k2 := by rw [whole_len, hk2]
  have hf1 : fine bs = (decide (16 ≤ k) && decide (k ≤ 400)) := by rw [fine, hk]
  have hf2 : fine bs2 = (decide (16 ≤ k2) && decide (k2 ≤ 400)) := by rw [fine, hk2]
  clear hk hk2 hn hn2
  cases hfb : fine bs with
  | false =>
    rw [hfb] at hw1
    clear hfb hf1 hf2
    have HW1 := Lib.hid hw1
    have HW2 := Lib.hid hw2
    have HWL := Lib.hid hwl
    have HWL2 := Lib.hid hwl2
    have HKN := Lib.hid hkn
    have HKN2 := Lib.hid hkn2
    clear hw1 hw2 hwl hwl2 hkn hkn2
    go_enter Try.func5, Try.ntmps5
    go_wp2_with (first
      | (go_at_call 16; refine HW1.out.mono ?_; rintro e w1 ⟨B1, d1, rfl, hc1, hr1, hB1⟩; have HR1 := Lib.hid hr1; have HB1 := Lib.hid hB1; clear hr1 hB1 hc1 HW1)
      | (go_at_call 16; refine (HW2.out w1 HB1.out).mono ?_; rintro e w2 ⟨B2, d2, rfl, hc2, hr2, hB2⟩; have HR2 := Lib.hid hr2; have HB2 := Lib.hid (below_then HB1.out hB2); have HR1b := Lib.hid (HR1.out.below hB2 (Nat.le_refl _)); clear hr2 hB2 hc2 HW2 HR1 HB1)
      | (go_at_call 17; have hg := HB2.out; clear hg; refine (wrapAwake_calls w2).mono ?_; rintro e w9 ⟨rfl, hB9⟩; have HB9 := Lib.hid (below_then HB2.out hB9); clear hB9)
      | (go_at_call 15; have hg := HB2.out; clear hg; refine (partOwn_calls w2 B1 (whole bs) k d1 HR1b.out HBK.out).mono ?_; rintro e w3 ⟨v3, rfl, ho3, hB3⟩; obtain ⟨E3, e3, rfl, hc3, hr3⟩ := opn ho3 HWL.out; have HR3 := Lib.hid hr3; have HB3 := Lib.hid (below_then HB2.out hB3); have HR1c := Lib.hid (HR1b.out.below hB3 (Nat.le_refl _)); have HR2c := Lib.hid (HR2.out.below hB3 (Nat.le_refl _)); clear ho3 hr3 hB3 hc3 HR1b HR2 HB2)
      | (go_at_call 18; have hg := HB3.out; clear hg; refine (Wrapped_yes w3 s k n E3 e3 (whole bs) hs HN1.out HN2.out HKN.out HR3.out).mono ?_; rintro e w4 ⟨X4, x4, rfl, hc4, hr4, hB4⟩; have HR4 := Lib.hid hr4; have HB4 := Lib.hid (below_then HB3.out hB4); have HR1d := Lib.hid (HR1c.out.below hB4 (Nat.le_refl _)); have HR2d := Lib.hid (HR2c.out.below hB4 (Nat.le_refl _)); clear hr4 hB4 hc4 HR3 HR1c HR2c HB3)
      | (go_at_call 15; have hg := HB4.out; clear hg; refine (partOwn_calls w4 B2 (whole bs2) k2 d2 HR2d.out HBK2.out).mono ?_; rintro e w5 ⟨v5, rfl, ho5, hB5⟩; obtain ⟨E5, e5, rfl, hc5, hr5⟩ := opn ho5 HWL2.out; have HR5 := Lib.hid hr5; have HB5 := Lib.hid (below_then HB4.out hB5); have HR1e := Lib.hid (HR1d.out.below hB5 (Nat.le_refl _)); have HR2e := Lib.hid (HR2d.out.below hB5 (Nat.le_refl _)); have HR4e := Lib.hid (HR4.out.below hB5 (Nat.le_refl _)); clear ho5 hr5 hB5 hc5 HR1d HR2d HR4 HB4)
      | (go_at_call 18; refine (Wrapped_yes w5 s k2 n2 E5 e5 (whole bs2) hs HN12.out HN22.out HKN2.out HR5.out).mono ?_; rintro e w6 ⟨X6, x6, rfl, hc6, hr6, hB6⟩; have HR6 := Lib.hid hr6; have HB6 := Lib.hid (below_then HB5.out hB6); have HR1f := Lib.hid (HR1e.out.below hB6 (Nat.le_refl _)); have HR2f := Lib.hid (HR2e.out.below hB6 (Nat.le_refl _)); have HR4f := Lib.hid (HR4e.out.below hB6 (Nat.le_refl _)); clear hr6 hB6 hc6 HR5 HR1e HR2e HR4e HB5)
      | (go_at_call 13; have hg := HINJ.out; clear hg; have hps := PartSame_calls w6 X4 X6 _ _ (k + 8) x4 (k2 + 8) x6 HR4f.out HR6.out; rw [HINJ.out] at hps; refine hps.mono ?_; clear hps; rintro e w7 ⟨rfl, hw7⟩; have HW7 := Lib.hid hw7; clear hw7 HINJ HR4f HR6)
      | (go_at_call 13; have hps := PartSame_calls w7 B1 B2 (whole bs) (whole bs2) k d1 k2 d2 (HW7.out ▸ HR1f.out) (HW7.out ▸ HR2f.out); rw [← HT.out] at hps; refine hps.mono ?_; clear hps; rintro e w8 ⟨rfl, hw8⟩; have HB8 : Hid (Below w.heap.size w w8) := hw8 ▸ HW7.out ▸ HB6; clear hw8)
      | (go_at_call 17; refine (wrapAwake_calls w8).mono ?_; rintro e w9 ⟨rfl, hB9⟩; have HB9 := Lib.hid (below_then HB8.out hB9); clear hB9))
    go_ret
    exact ⟨rfl, HB9.out⟩
  | true =>
  cases hfb2 : fine bs2 with
  | false =>
    rw [hfb] at hw1
    rw [hfb2] at hw2
    clear hfb hf1 hf2 hfb2
    have HW1 := Lib.hid hw1
    have HW2 := Lib.hid hw2
    have HWL := Lib.hid hwl
    have HWL2 := Lib.hid hwl2
    have HKN := Lib.hid hkn
    have HKN2 := Lib.hid hkn2
    clear hw1 hw2 hwl hwl2 hkn hkn2
    go_enter Try.func5, Try.ntmps5
    go_wp2_with (first
      | (go_at_call 16; refine HW1.out.mono ?_; rintro e w1 ⟨B1, d1, rfl, hc1, hr1, hB1⟩; have HR1 := Lib.hid hr1; have HB1 := Lib.hid hB1; clear hr1 hB1 hc1 HW1)
      | (go_at_call 16; refine (HW2.out w1 HB1.out).mono ?_; rintro e w2 ⟨B2, d2, rfl, hc2, hr2, hB2⟩; have HR2 := Lib.hid hr2; have HB2 := Lib.hid (below_then HB1.out hB2); have HR1b := Lib.hid (HR1.out.below hB2 (Nat.le_refl _)); clear hr2 hB2 hc2 HW2 HR1 HB1)
      | (go_at_call 17; have hg := HB2.out; clear hg; refine (wrapAwake_calls w2).mono ?_; rintro e w9 ⟨rfl, hB9⟩; have HB9 := Lib.hid (below_then HB2.out hB9); clear hB9)
      | (go_at_call 15; have hg := HB2.out; clear hg; refine (partOwn_calls w2 B1 (whole bs) k d1 HR1b.out HBK.out).mono ?_; rintro e w3 ⟨v3, rfl, ho3, hB3⟩; obtain ⟨E3, e3, rfl, hc3, hr3⟩ := opn ho3 HWL.out; have HR3 := Lib.hid hr3; have HB3 := Lib.hid (below_then HB2.out hB3); have HR1c := Lib.hid (HR1b.out.below hB3 (Nat.le_refl _)); have HR2c := Lib.hid (HR2.out.below hB3 (Nat.le_refl _)); clear ho3 hr3 hB3 hc3 HR1b HR2 HB2)
      | (go_at_call 18; have hg := HB3.out; clear hg; refine (Wrapped_yes w3 s k n E3 e3 (whole bs) hs HN1.out HN2.out HKN.out HR3.out).mono ?_; rintro e w4 ⟨X4, x4, rfl, hc4, hr4, hB4⟩; have HR4 := Lib.hid hr4; have HB4 := Lib.hid (below_then HB3.out hB4); have HR1d := Lib.hid (HR1c.out.below hB4 (Nat.le_refl _)); have HR2d := Lib.hid (HR2c.out.below hB4 (Nat.le_refl _)); clear hr4 hB4 hc4 HR3 HR1c HR2c HB3)
      | (go_at_call 15; have hg := HB4.out; clear hg; refine (partOwn_calls w4 B2 (whole bs2) k2 d2 HR2d.out HBK2.out).mono ?_; rintro e w5 ⟨v5, rfl, ho5, hB5⟩; obtain ⟨E5, e5, rfl, hc5, hr5⟩ := opn ho5 HWL2.out; have HR5 := Lib.hid hr5; have HB5 := Lib.hid (below_then HB4.out hB5); have HR1e := Lib.hid (HR1d.out.below hB5 (Nat.le_refl _)); have HR2e := Lib.hid (HR2d.out.below hB5 (Nat.le_refl _)); have HR4e := Lib.hid (HR4.out.below hB5 (Nat.le_refl _)); clear ho5 hr5 hB5 hc5 HR1d HR2d HR4 HB4)
      | (go_at_call 18; refine (Wrapped_yes w5 s k2 n2 E5 e5 (whole bs2) hs HN12.out HN22.out HKN2.out HR5.out).mono ?_; rintro e w6 ⟨X6, x6, rfl, hc6, hr6, hB6⟩; have HR6 := Lib.hid hr6; have HB6 := Lib.hid (below_then HB5.out hB6); have HR1f := Lib.hid (HR1e.out.below hB6 (Nat.le_refl _)); have HR2f := Lib.hid (HR2e.out.below hB6 (Nat.le_refl _)); have HR4f := Lib.hid (HR4e.out.below hB6 (Nat.le_refl _)); clear hr6 hB6 hc6 HR5 HR1e HR2e HR4e HB5)
      | (go_at_call 13; have hg := HINJ.out; clear hg; have hps := PartSame_calls w6 X4 X6 _ _ (k + 8) x4 (k2 + 8) x6 HR4f.out HR6.out; rw [HINJ.out] at hps; refine hps.mono ?_; clear hps; rintro e w7 ⟨rfl, hw7⟩; have HW7 := Lib.hid hw7; clear hw7 HINJ HR4f HR6)
      | (go_at_call 13; have hps := PartSame_calls w7 B1 B2 (whole bs) (whole bs2) k d1 k2 d2 (HW7.out ▸ HR1f.out) (HW7.out ▸ HR2f.out); rw [← HT.out] at hps; refine hps.mono ?_; clear hps; rintro e w8 ⟨rfl, hw8⟩; have HB8 : Hid (Below w.heap.size w w8) := hw8 ▸ HW7.out ▸ HB6; clear hw8)
      | (go_at_call 17; refine (wrapAwake_calls w8).mono ?_; rintro e w9 ⟨rfl, hB9⟩; have HB9 := Lib.hid (below_then HB8.out hB9); clear hB9))
    go_ret
    exact ⟨rfl, HB9.out⟩
  | true =>
    rw [hfb] at hw1
    rw [hfb2] at hw2
    rw [hfb] at hf1
    rw [hfb2] at hf2
    simp only [Bool.true_eq, Bool.and_eq_true, decide_eq_true_eq] at hf1 hf2
    have HN1 : Hid (1 ≤ n) := Lib.hid (by omega)
    have HN2 : Hid (n ≤ 1000) := Lib.hid (by omega)
    have HN12 : Hid (1 ≤ n2) := Lib.hid (by omega)
    have HN22 : Hid (n2 ≤ 1000) := Lib.hid (by omega)
    have HBK : Hid (k ≤ 140737488355328) := Lib.hid (by omega)
    have HBK2 : Hid (k2 ≤ 140737488355328) := Lib.hid (by omega)
    obtain ⟨t, ht⟩ : ∃ t, t = (whole bs == whole bs2) := ⟨_, rfl⟩
    have hinj := wrap_inj s n n2 (whole bs) (whole bs2) HN1.out HN12.out (by rw [hwl, hkn]) (by rw [hwl2, hkn2])
    rw [← ht] at hinj
    have HINJ := Lib.hid hinj
    have HT := Lib.hid ht
    clear hfb hf1 hf2 hfb2 hinj ht
    have HW1 := Lib.hid hw1
    have HW2 := Lib.hid hw2
    have HWL := Lib.hid hwl
    have HWL2 := Lib.hid hwl2
    have HKN := Lib.hid hkn
    have HKN2 := Lib.hid hkn2
    clear hw1 hw2 hwl hwl2 hkn hkn2
    go_enter Try.func5, Try.ntmps5
    go_wp2_with (first
      | (go_at_call 16; refine HW1.out.mono ?_; rintro e w1 ⟨B1, d1, rfl, hc1, hr1, hB1⟩; have HR1 := Lib.hid hr1; have HB1 := Lib.hid hB1; clear hr1 hB1 hc1 HW1)
      | (go_at_call 16; refine (HW2.out w1 HB1.out).mono ?_; rintro e w2 ⟨B2, d2, rfl, hc2, hr2, hB2⟩; have HR2 := Lib.hid hr2; have HB2 := Lib.hid (below_then HB1.out hB2); have HR1b := Lib.hid (HR1.out.below hB2 (Nat.le_refl _)); clear hr2 hB2 hc2 HW2 HR1 HB1)
      | (go_at_call 17; have hg := HB2.out; clear hg; refine (wrapAwake_calls w2).mono ?_; rintro e w9 ⟨rfl, hB9⟩; have HB9 := Lib.hid (below_then HB2.out hB9); clear hB9)
      | (go_at_call 15; have hg := HB2.out; clear hg; refine (partOwn_calls w2 B1 (whole bs) k d1 HR1b.out HBK.out).mono ?_; rintro e w3 ⟨v3, rfl, ho3, hB3⟩; obtain ⟨E3, e3, rfl, hc3, hr3⟩ := opn ho3 HWL.out; have HR3 := Lib.hid hr3; have HB3 := Lib.hid (below_then HB2.out hB3); have HR1c := Lib.hid (HR1b.out.below hB3 (Nat.le_refl _)); have HR2c := Lib.hid (HR2.out.below hB3 (Nat.le_refl _)); clear ho3 hr3 hB3 hc3 HR1b HR2 HB2)
      | (go_at_call 18; have hg := HB3.out; clear hg; refine (Wrapped_yes w3 s k n E3 e3 (whole bs) hs HN1.out HN2.out HKN.out HR3.out).mono ?_; rintro e w4 ⟨X4, x4, rfl, hc4, hr4, hB4⟩; have HR4 := Lib.hid hr4; have HB4 := Lib.hid (below_then HB3.out hB4); have HR1d := Lib.hid (HR1c.out.below hB4 (Nat.le_refl _)); have HR2d := Lib.hid (HR2c.out.below hB4 (Nat.le_refl _)); clear hr4 hB4 hc4 HR3 HR1c HR2c HB3)
      | (go_at_call 15; have hg := HB4.out; clear hg; refine (partOwn_calls w4 B2 (whole bs2) k2 d2 HR2d.out HBK2.out).mono ?_; rintro e w5 ⟨v5, rfl, ho5, hB5⟩; obtain ⟨E5, e5, rfl, hc5, hr5⟩ := opn ho5 HWL2.out; have HR5 := Lib.hid hr5; have HB5 := Lib.hid (below_then HB4.out hB5); have HR1e := Lib.hid (HR1d.out.below hB5 (Nat.le_refl _)); have HR2e := Lib.hid (HR2d.out.below hB5 (Nat.le_refl _)); have HR4e := Lib.hid (HR4.out.below hB5 (Nat.le_refl _)); clear ho5 hr5 hB5 hc5 HR1d HR2d HR4 HB4)
      | (go_at_call 18; refine (Wrapped_yes w5 s k2 n2 E5 e5 (whole bs2) hs HN12.out HN22.out HKN2.out HR5.out).mono ?_; rintro e w6 ⟨X6, x6, rfl, hc6, hr6, hB6⟩; have HR6 := Lib.hid hr6; have HB6 := Lib.hid (below_then HB5.out hB6); have HR1f := Lib.hid (HR1e.out.below hB6 (Nat.le_refl _)); have HR2f := Lib.hid (HR2e.out.below hB6 (Nat.le_refl _)); have HR4f := Lib.hid (HR4e.out.below hB6 (Nat.le_refl _)); clear hr6 hB6 hc6 HR5 HR1e HR2e HR4e HB5)
      | (go_at_call 13; have hg := HINJ.out; clear hg; have hps := PartSame_calls w6 X4 X6 _ _ (k + 8) x4 (k2 + 8) x6 HR4f.out HR6.out; rw [HINJ.out] at hps; refine hps.mono ?_; clear hps; rintro e w7 ⟨rfl, hw7⟩; have HW7 := Lib.hid hw7; clear hw7 HINJ HR4f HR6)
      | (go_at_call 13; have hps := PartSame_calls w7 B1 B2 (whole bs) (whole bs2) k d1 k2 d2 (HW7.out ▸ HR1f.out) (HW7.out ▸ HR2f.out); rw [← HT.out] at hps; refine hps.mono ?_; clear hps; rintro e w8 ⟨rfl, hw8⟩; have HB8 : Hid (Below w.heap.size w w8) := hw8 ▸ HW7.out ▸ HB6; clear hw8)
      | (go_at_call 17; refine (wrapAwake_calls w8).mono ?_; rintro e w9 ⟨rfl, hB9⟩; have HB9 := Lib.hid (below_then HB8.out hB9); clear hB9))
    go_ret
    exact ⟨rfl, HB9.out⟩
end Go.Proofs.Ytakfblfepgigbaa.Wr
