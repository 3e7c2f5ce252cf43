/- Walks of wrapWhole and of the law FnWrapApartKeys; no condition on the lengths. -/
import Derived.Test.YteecamdcfkielaaDoorAwake
set_option linter.unusedVariables false
set_option linter.unusedSimpArgs false
namespace Go.Proofs.YteecamdcfkielaaDoor.Wr
open Go.RowKit Go.Proofs.YteecamdcfkielaaDoor.K Go.Proofs.YteecamdcfkielaaDoor.Own
def whole (bs : List UInt8) : List UInt8 := bs.take (bs.length / 8 * 8)
def fine (bs : List UInt8) : Bool := decide (16 ≤ bs.length / 8 * 8) && decide (bs.length / 8 * 8 ≤ 400)
theorem whole_len (bs : List UInt8) : (whole bs).length = bs.length / 8 * 8 := by
  rw [whole, List.length_take]
  omega
set_option maxRecDepth 100000 in
set_option maxHeartbeats 2000000 in
theorem wrapWhole_calls (w : World) (m : Nat) (A : Option Addr) (c : Nat) (bs : List UInt8) (hrb : RB w A m bs) (hcap : m ≤ c) (hm : m ≤ 2147483647) :
    Calls Tryd.prog 4 #[.slice A m c] w fun e w' => ∃ A' c', e = .returned (.tuple #[.slice A' (bs.length / 8 * 8) c', .bool (fine bs)]) ∧ bs.length / 8 * 8 ≤ c' ∧ RB w' A' (bs.length / 8 * 8) (whole bs) ∧ Below w.heap.size w w' := by
  obtain ⟨i0, hi, hz0, hz1, hz2⟩ := info_parts info_u8
  have hlen := hrb.len
  obtain ⟨q, hq⟩ : ∃ q, q = m / 8 := ⟨_, rfl⟩
  obtain ⟨k, hk⟩ : ∃ k, k = q * 8 := ⟨_, rfl⟩
  have hqi : (m : Int) / 8 = (q : Int) := by omega
  have hki : (q : Int) * 8 = (k : Int) := by omega
  have hkm : k ≤ m := by omega
  have hwq : bs.length / 8 * 8 = k := by rw [← hlen]; omega
  have hfin : fine bs = (decide (16 ≤ k) && decide (k ≤ 400)) := by rw [fine, hwq]
  rw [hwq, hfin]
  obtain ⟨A', hcut, hrd⟩ := cut_h (P := Tryd.prog) Tryd.underlying23 hi hz1 .i64 hrb hcap (k : Int) k rfl hkm
  have hrd2 : RB w A' k (whole bs) := by
    show Reads _ _ _ _ _
    rw [whole, hwq]
    simpa [bys, List.map_take] using hrd
  have hwl : (whole bs).length = k := by rw [whole_len, hwq]
  have HRD := Lib.hid hrd2
  have HWL := Lib.hid hwl
  have hb : k ≤ 140737488355328 := by omega
  clear hrd hrd2 hwl hwq hfin hrb hq hk hlen
  have hdec : decide ((k : Int) ≤ 400) = decide (k ≤ 400) := by
    rw [decide_eq_decide]
    omega
  have HDEC := Lib.hid hdec
  clear hdec
  by_cases h16 : 16 ≤ k
  · have h16i : (16 : Int) ≤ (k : Int) := by omega
    go_enter Tryd.func4, Tryd.ntmps4
    go_wp2_with (go_at_call 7; refine (partOwn_calls w A' (whole bs) k c HRD.out hb).mono ?_; rintro e w1 ⟨v1, rfl, ho1, hB1⟩; obtain ⟨A1, c1, rfl, hc1, hr1⟩ := opn ho1 HWL.out; have HR1 := Lib.hid hr1; have HB1 := Lib.hid hB1; have HC1 := Lib.hid hc1; clear ho1 hr1 hB1 hc1)
    exact bodyPost_ret (v := .tuple #[.slice A1 k c1, .bool (decide ((k : Int) ≤ 400))]) (by kernel_rfl) rfl ⟨A1, c1, by rw [HDEC.out]; simp [h16], HC1.out, HR1.out, HB1.out⟩
  · have h16i : ¬ (16 : Int) ≤ (k : Int) := by omega
    go_enter Tryd.func4, Tryd.ntmps4
    go_wp2_with (go_at_call 7; refine (partOwn_calls w A' (whole bs) k c HRD.out hb).mono ?_; rintro e w1 ⟨v1, rfl, ho1, hB1⟩; obtain ⟨A1, c1, rfl, hc1, hr1⟩ := opn ho1 HWL.out; have HR1 := Lib.hid hr1; have HB1 := Lib.hid hB1; have HC1 := Lib.hid hc1; clear ho1 hr1 hB1 hc1)
    exact bodyPost_ret (v := .tuple #[.slice A1 k c1, .bool false]) (by kernel_rfl) rfl ⟨A1, c1, by simp [h16], HC1.out, HR1.out, HB1.out⟩
end Go.Proofs.YteecamdcfkielaaDoor.Wr
