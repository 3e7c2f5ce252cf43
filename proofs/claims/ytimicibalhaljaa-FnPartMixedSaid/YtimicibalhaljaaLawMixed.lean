/- The walk of the law FnPartMixed; no condition on the lengths. -/
import Derived.Test.YtimicibalhaljaaPartSign
import Derived.Test.YtimicibalhaljaaPMixed
import Derived.Deep.RegionHeld3
set_option linter.unusedVariables false
set_option linter.unusedSimpArgs false
namespace Go.Proofs.Ytimicibalhaljaa.B64
open Go.RowKit Go.Proofs.Ytimicibalhaljaa.K Go.Proofs.Ytimicibalhaljaa.Own
set_option maxRecDepth 100000 in
set_option maxHeartbeats 4000000 in
theorem FnPartMixed_calls (w : World) (m : Nat) (A : Option Addr) (c : Nat) (bs : List UInt8) (kd : Nat) (hrb : RB w A m bs) (hcap : m ≤ c) (hkd : kd < 256) :
    Calls Try.prog 3 #[.slice A m c, .int .u8 (kd : Nat)] w fun e w' => e = .returned (.bool true) ∧ Below w.heap.size w w' := by
  have HRB := Lib.hid hrb
  have HC := Lib.hid hcap
  clear hrb hcap
  by_cases h1 : m > 2147483647
  · go_enter Try.func3, Try.ntmps3
    go_wp2
    go_ret
    exact ⟨rfl, Below.refl _ _⟩
  have h1i : ¬ (2147483647 : Int) < (m : Int) := by omega
  have HB0 := Lib.hid (below_alloc' (Below.refl w.heap.size w) (.cells #[.slice A m c] 22))
  by_cases h2 : m ≤ 2000
  · have HS := Lib.hid (partShort_lit w [(A, m, c)] 1 #[.slice A m c] rfl rfl 22 (by decide) true (by simp [h2]))
    obtain ⟨i0, hi, hz0, hz1, hz2⟩ := info_parts info_u8
    have HI := Lib.hid (And.intro hi (And.intro hz0 (And.intro hz1 hz2)))
    obtain ⟨q, hq⟩ : ∃ q, q = m / 3 := ⟨_, rfl⟩
    have hqi : (m : Int) / 3 = (q : Int) := by omega
    have hq3 : q * 3 ≤ m := by omega
    have hqn : q ≤ 1000 := by omega
    obtain ⟨A2, hch, hrh⟩ := cut_h (P := Try.prog) Try.underlying22 hi hz1 .i64 HRB.out HC.out ((q : Int) * 3) (q * 3) (by omega) hq3
    have hr2 : RB w A2 (q * 3) (bs.take (q * 3)) := by
      show Reads _ _ _ _ _
      rw [Nat.mul_one] at hrh
      simpa [bys, List.map_take] using hrh
    have HP1 := Lib.hid (PartOf_calls (w.alloc (.cells #[.slice A m c] 22)) A2 (q * 3) c (bs.take (q * 3)) (hr2.below HB0.out (Nat.le_refl _)) (by have := HC.out; omega) (by omega))
    have HW : Hid ((bs.take (q * 3)).length % 3 = 0 ∧ (bs.take (q * 3)).length ≤ 2000) := Lib.hid (by
      have := HRB.out.len
      rw [List.length_take]
      omega)
    clear hr2 hrh hi hz0 hz1 hz2 hq
    obtain ⟨T, hT⟩ : ∃ T, T = bs.take (q * 3) := ⟨_, rfl⟩
    rw [← hT] at HP1 HW
    clear hT
    have hb1 : ∃ x : Nat, x < 2 ∧ bits .and .u8 (kd : Int) 1 = (x : Int) := ⟨kd % 2, by omega, by rw [show (1 : Int) = ((1 : Nat) : Int) from rfl, u8_and_nat _ _ hkd (by decide), show (1 : Nat) = 2 ^ 1 - 1 from rfl, Nat.and_two_pow_sub_one_eq_mod]⟩
    have hb2 : ∃ x : Nat, x < 2 ∧ bits .and .u8 ((kd : Int) / 2) 1 = (x : Int) := ⟨kd / 2 % 2, by omega, by rw [show (kd : Int) / 2 = ((kd / 2 : Nat) : Int) by omega, show (1 : Int) = ((1 : Nat) : Int) from rfl, u8_and_nat _ _ (by omega) (by decide), show (1 : Nat) = 2 ^ 1 - 1 from rfl, Nat.and_two_pow_sub_one_eq_mod]⟩
    obtain ⟨x, hx, hbx⟩ := hb1
    obtain ⟨y, hy, hby⟩ := hb2
    obtain ⟨e1, he1⟩ : ∃ e1 : UInt8, (e1 = 45 ∨ e1 = 95) ∧ ∀ W : World, (Instr.index 9 (.string ⟨#[45, 95]⟩) (.int .u8 (x : Int))).run Try.prog W = .ok (.int .u8 (e1.toNat : Nat)) W := by
      rcases (by omega : x = 0 ∨ x = 1) with rfl | rfl
      · exact ⟨45, .inl rfl, fun W => by kernel_rfl⟩
      · exact ⟨95, .inr rfl, fun W => by kernel_rfl⟩
    obtain ⟨e2, he2⟩ : ∃ e2 : UInt8, (e2 = 43 ∨ e2 = 47) ∧ ∀ W : World, (Instr.index 9 (.string ⟨#[43, 47]⟩) (.int .u8 (y : Int))).run Try.prog W = .ok (.int .u8 (e2.toNat : Nat)) W := by
      rcases (by omega : y = 0 ∨ y = 1) with rfl | rfl
      · exact ⟨43, .inl rfl, fun W => by kernel_rfl⟩
      · exact ⟨47, .inr rfl, fun W => by kernel_rfl⟩
    obtain ⟨hc1, hi1⟩ := he1
    obtain ⟨hc2, hi2⟩ := he2
    have HCC := Lib.hid (And.intro hc1 hc2)
    clear hc1 hc2
    go_enter Try.func3, Try.ntmps3
    go_wp2_with fail
    refine HS.out.mono ?_
    rintro e w1 ⟨rfl, rfl⟩
    go_wp2_with fail
    refine HP1.out.mono ?_
    rintro e w2 ⟨A3, n3, c3, rfl, hc3, hn3, ho3, hB3⟩
    have hn4 : n3 ≤ 4000 := madeLen hn3 4000 (enc_2000 rfl HW.out.2)
    have HN3 := Lib.hid hn3
    have HO3 := Lib.hid ho3
    have HSZ0 := Lib.hid hB3.size
    have HB3 := Lib.hid (below_then HB0.out hB3)
    clear hc3 hn3 ho3 hB3
    go_wp2_with fail
    have HOD : Hid (w2.drew.ownsRow (w.alloc (.cells #[.slice A m c] 22)).heap.size 5 1 (.slice A3 n3 c3) n3 (bys (encRaw alURL T))) := HO3
    have HSZ : Hid ((w.alloc (.cells #[.slice A m c] 22)).heap.size ≤ w2.heap.size) := Lib.hid (by have := HB3; exact HSZ0.out)
    go_region_held3 (fun _ => True) (trivial) ((rw [if_pos (by rfl)]; refine wp_append_any _ _ _ 22 rfl (w.alloc (.cells #[.slice A m c] 22)).heap.size 5 i0 (.int .u8 0) 1 1 Try.underlying22 HI.out.1 HI.out.2.1 HI.out.2.2.1 HI.out.2.2.2 rfl (by decide) _ n3 (bys (encRaw alURL T)) rfl (World.ownsRow.alloc HOD.out _) (some ⟨w2.heap.size, 0, none⟩) 4 4 (bys [e1, e2, 65, 65]) rfl (rb_lit w2.drew [e1, e2, 65, 65] 4 _ rfl rfl _) (bys_one _) (by unfold maxLen; omega) (by omega) (by have h1 := HSZ.out; simp at h1 ⊢; omega) ?_; intro v3 w3 hown3 hg3 hat3; have HO4 := Lib.hid hown3; have HG4 := Lib.hid hg3; clear hown3 hg3 hat3))
    all_goals
      obtain ⟨A4, c4, hv4, hc4, hr4⟩ := own_form HO4.out
      have hB4 : Below w.heap.size w w3 := ((HB3.out.drew).alloc HB3.out.size _).grown HG4.out (by have := HB3.out.size; simp; omega) (fun k hk => Nat.le_trans (by simp) (own_block_ge HO3.out k hk))
      have HB4 := Lib.hid hB4
      have hr5 : RB w3 A4 (n3 + 4) (encL alURL false T ++ [e1, e2, 65, 65]) := by
        show Reads _ _ _ _ _
        rw [bys_append, ← encRaw_eq]
        exact hr4
      have HD := Lib.hid (Decoded_no w3 A4 (n3 + 4) c4 _ hr5 hc4 (by omega) (mixed_nl T e1 e2 HCC.out.1 HCC.out.2) (mixed_none T HW.out.1 e1 e2 HCC.out.1 HCC.out.2))
      clear hr4 hr5 hB4 HO4 HG4
      subst hv4
      go_wp2_with fail
      refine HD.out.mono ?_
      rintro e w5 ⟨rfl, hB5⟩
      have HB5 := Lib.hid (below_then HB4.out hB5)
      have HAW := Lib.hid (partAwake_calls w5)
      clear hB5
      go_wp2_with fail
      refine HAW.out.mono ?_
      rintro e w6 ⟨rfl, hB6⟩
      have HB6 := Lib.hid (below_then HB5.out hB6)
      clear hB6
      go_wp2
      go_ret
      exact ⟨rfl, HB6.out⟩
  · have HS := Lib.hid (partShort_lit w [(A, m, c)] 1 #[.slice A m c] rfl rfl 22 (by decide) false (by simp [h2]))
    have HAW := Lib.hid (partAwake_calls (w.alloc (.cells #[.slice A m c] 22)))
    go_enter Try.func3, Try.ntmps3
    go_wp2_with fail
    refine HS.out.mono ?_
    rintro e w1 ⟨rfl, rfl⟩
    go_wp2_with fail
    refine HAW.out.mono ?_
    rintro e w2 ⟨rfl, hB2⟩
    have HB2 := Lib.hid (below_then HB0.out hB2)
    clear hB2
    go_wp2
    go_ret
    exact ⟨rfl, HB2.out⟩
end Go.Proofs.Ytimicibalhaljaa.B64
