/- The walk of the law FnPartText; no condition on the lengths. -/
import Derived.Test.YtimicibalhaljaaLawDecode
import Derived.Test.YtimicibalhaljaaTextDec
set_option linter.unusedVariables false
set_option linter.unusedSimpArgs false
namespace Go.Proofs.Ytimicibalhaljaa.B64
open Go.RowKit Go.Proofs.Ytimicibalhaljaa.K Go.Proofs.Ytimicibalhaljaa.Own
theorem ref_partDec (t : List UInt8) : refDec (fL (alFor (!isStd t))) (isPad t) t = partDec t := by
  have e : alFor (!isStd t) = alOf t := by unfold alFor alOf; cases isStd t <;> rfl
  rw [e, refDec_eq, partDec]
  unfold alOf
  cases isStd t <;> decide
theorem PDecoded_yes (w : World) (A : Option Addr) (n c : Nat) (t out : List UInt8) (h : RB w A n t) (hc : n ≤ c) (hn : n ≤ 100000) (hd : partDec t = some out) :
    Calls Try.prog 22 #[.slice A n c] w (DecYes w out) := (PDP_calls w A n c t h hc hn).mono fun _ _ h => by
  rcases h with ⟨o, h1, h2⟩ | ⟨h1, _⟩
  · rw [ref_partDec, hd] at h1; cases h1; exact h2
  · rw [ref_partDec, hd] at h1; cases h1
theorem PDecoded_no (w : World) (A : Option Addr) (n c : Nat) (t : List UInt8) (h : RB w A n t) (hc : n ≤ c) (hn : n ≤ 100000) (hd : partDec t = none) :
    Calls Try.prog 22 #[.slice A n c] w (DecNo w) := (PDP_calls w A n c t h hc hn).mono fun _ _ h => by
  rcases h with ⟨o, h1, h2⟩ | ⟨_, h2⟩
  · rw [ref_partDec, hd] at h1; cases h1
  · exact h2
set_option maxRecDepth 100000 in
set_option maxHeartbeats 4000000 in
theorem FnPartText_calls (w : World) (m : Nat) (A : Option Addr) (c : Nat) (bs : List UInt8) (hrb : RB w A m bs) (hcap : m ≤ c) :
    Calls Try.prog 6 #[.slice A m c] w fun e w' => e = .returned (.bool true) ∧ Below w.heap.size w w' := by
  have HRB := Lib.hid hrb
  have HC := Lib.hid hcap
  clear hrb hcap
  by_cases h1 : m > 2147483647
  · go_enter Try.func6, Try.ntmps6
    go_wp2
    go_ret
    exact ⟨rfl, Below.refl _ _⟩
  have h1i : ¬ (2147483647 : Int) < (m : Int) := by omega
  have hB0 : Below w.heap.size w (w.alloc (.cells #[.slice A m c] 22)) := below_alloc' (Below.refl _ _) _
  have HB0 := Lib.hid hB0
  clear hB0
  have HAW := Lib.hid (partAwake_calls (w.alloc (.cells #[.slice A m c] 22)))
  by_cases h2 : m ≤ 2000
  · have HS := Lib.hid (partShort_lit w [(A, m, c)] 1 #[.slice A m c] rfl rfl 22 (by decide) true (by simp [h2]))
    obtain ⟨w1, hw1⟩ : ∃ w1, w1 = w.alloc (.cells #[.slice A m c] 22) := ⟨_, rfl⟩
    go_enter Try.func6, Try.ntmps6
    go_wp2_with fail
    refine HS.out.mono ?_
    rintro e w1x ⟨rfl, rfl⟩
    rw [← hw1] at HAW HB0 ⊢
    clear HS hw1
    have HR1 := Lib.hid (HRB.out.below HB0.out (Nat.le_refl _))
    go_wp2
    go_loopg [21] m (fun g u21 wr => ∃ k : Nat, g + k = m ∧ u21 = .int .i64 k ∧ Hid (∀ c ∈ bs.take k, c ≠ 10 ∧ c ≠ 13) ∧ wr = w1)
    case atStart => exact ⟨0, rfl, rfl, (by intro c hc; simp at hc), rfl⟩
    case round =>
      obtain ⟨k, hgk, rfl, hnl, hw⟩ := hrel
      subst hw
      by_cases hlt : k < m
      · obtain ⟨ad, rfl, hcl⟩ := HR1.out.bt hlt
        have HKL := Lib.hid (show k < bs.length by have := HRB.out.len; omega)
        obtain ⟨p, hp⟩ : ∃ p, p = (bt bs k).toNat := ⟨_, rfl⟩
        rw [← hp] at hcl
        have HP := Lib.hid hp
        clear hp
        by_cases h13 : p = 13
        · subst h13
          have hc' : wr.cell? (ad.add k) = some (.int .u8 13) := hcl
          clear hcl
          go_wp2_with fail
          refine HAW.out.mono ?_
          rintro e w2 ⟨rfl, hB2⟩
          have HB2 := Lib.hid (below_then HB0.out hB2)
          clear hB2
          go_wp2
          go_ret
          exact ⟨rfl, HB2.out⟩
        by_cases h10 : p = 10
        · subst h10
          have hc' : wr.cell? (ad.add k) = some (.int .u8 10) := hcl
          clear hcl h13
          go_wp2_with fail
          refine HAW.out.mono ?_
          rintro e w2 ⟨rfl, hB2⟩
          have HB2 := Lib.hid (below_then HB0.out hB2)
          clear hB2
          go_wp2
          go_ret
          exact ⟨rfl, HB2.out⟩
        have b13 : ((p : Int) == 13) = false := by rw [beq_eq_false_iff_ne]; omega
        have b10 : ((p : Int) == 10) = false := by rw [beq_eq_false_iff_ne]; omega
        have H13 := Lib.hid h13
        have H10 := Lib.hid h10
        clear h13 h10
        go_wp2
        go_roundg (m - (k + 1))
        case measure => omega
        case rel =>
          refine ⟨k + 1, by omega, by go_num, ?_, rfl⟩
          intro c hc
          rw [List.take_succ_eq_append_getElem HKL.out, List.mem_append] at hc
          rcases hc with hc | hc
          · exact hnl.out c hc
          · rw [List.mem_singleton, ← bt_get _ _ HKL.out] at hc
            subst hc
            exact ⟨fun e => H10.out (by rw [HP.out, e]; rfl), fun e => H13.out (by rw [HP.out, e]; rfl)⟩
      · obtain rfl : k = m := by omega
        have hall : ∀ c ∈ bs, c ≠ 10 ∧ c ≠ 13 := by
          have := hnl.out
          rw [List.take_of_length_le (by have := HRB.out.len; omega)] at this
          exact this
        have HNL := Lib.hid hall
        clear hall hnl HAW
        have HP2 := Lib.hid (partOwn_n wr A k c bs HR1.out (by omega))
        go_wp2_with fail
        refine HP2.out.mono ?_
        rintro e w4 ⟨A4, c4, rfl, hc4, ho4, hB4⟩
        have HB04 := Lib.hid (below_then HB0.out hB4)
        have HR4 := Lib.hid (Reads.of_own ho4 : RB w4 A4 k bs)
        have HC4 := Lib.hid hc4
        clear ho4 hB4 hc4
        cases hd : partDec bs with
        | none =>
          have HD := Lib.hid hd
          have HP3 := Lib.hid (Decoded_no w4 A4 k c4 bs HR4.out HC4.out (by omega) HNL.out hd)
          clear hd
          go_wp2_with fail
          refine HP3.out.mono ?_
          rintro e w5 ⟨rfl, hB5⟩
          have HB05 := Lib.hid (below_then HB04.out hB5)
          clear hB5
          have hcs := conv_string (P := Try.prog) (w := w5) (c := c) Try.underlying22 Try.underlying5 Try.underlying9 (HRB.out.below HB05.out (Nat.le_refl _))
          have HP4 := Lib.hid (DecodedText_no w5 bs (by rw [← HRB.out.len]; omega) HNL.out HD.out)
          go_wp2_with fail
          refine HP4.out.mono ?_
          rintro e w6 ⟨rfl, hB6⟩
          have HB06 := Lib.hid (below_then HB05.out hB6)
          clear hB6 hcs
          have HP5 := Lib.hid (PDecoded_no w6 A k c bs (HRB.out.below HB06.out (Nat.le_refl _)) HC.out (by omega) HD.out)
          go_wp2_with fail
          refine HP5.out.mono ?_
          rintro e w7 ⟨rfl, hB7⟩
          have HB07 := Lib.hid (below_then HB06.out hB7)
          have HAW := Lib.hid (partAwake_calls w7)
          clear hB7
          go_wp2_with fail
          refine HAW.out.mono ?_
          rintro e w8 ⟨rfl, hB8⟩
          have HB08 := Lib.hid (below_then HB07.out hB8)
          clear hB8
          go_wp2
          go_ret
          exact ⟨rfl, HB08.out⟩
        | some out =>
          have HD := Lib.hid hd
          have HP3 := Lib.hid (Decoded_yes w4 A4 k c4 bs out HR4.out HC4.out (by omega) HNL.out hd)
          obtain ⟨no, hno⟩ : ∃ no, no = out.length := ⟨_, rfl⟩
          have HNO := Lib.hid hno
          clear hd hno
          go_wp2_with fail
          refine HP3.out.mono ?_
          rintro e w5 ⟨A5, c5, rfl, hc5, ho5, hB5⟩
          have HR5 := Lib.hid (Reads.of_own ho5 : RB w5 A5 out.length out)
          have HB05 := Lib.hid (below_then HB04.out hB5)
          clear hB5 ho5
          have hcs := conv_string (P := Try.prog) (w := w5) (c := c) Try.underlying22 Try.underlying5 Try.underlying9 (HRB.out.below HB05.out (Nat.le_refl _))
          have HP4 := Lib.hid (DecodedText_yes w5 bs out (by rw [← HRB.out.len]; omega) HNL.out HD.out)
          go_wp2_with fail
          refine HP4.out.mono ?_
          rintro e w6 ⟨A6, c6, rfl, hc6, ho6, hB6⟩
          have HR6 := Lib.hid (Reads.of_own ho6 : RB w6 A6 out.length out)
          have HR56 := Lib.hid (HR5.out.below hB6 (Nat.le_refl _))
          have HB06 := Lib.hid (below_then HB05.out hB6)
          clear hB6 hcs ho6 HR5
          have HP5 := Lib.hid (PDecoded_yes w6 A k c bs out (HRB.out.below HB06.out (Nat.le_refl _)) HC.out (by omega) HD.out)
          go_wp2_with fail
          refine HP5.out.mono ?_
          rintro e w7 ⟨A7, c7, rfl, hc7, ho7, hB7⟩
          have HR7 := Lib.hid (Reads.of_own ho7 : RB w7 A7 out.length out)
          have HS1 := Lib.hid (PartSame_yes w7 A5 A7 out out.length c5 out.length c7 (HR56.out.below hB7 (Nat.le_refl _)) HR7.out)
          have HS2 := Lib.hid (PartSame_yes w7 A6 A7 out out.length c6 out.length c7 (HR6.out.below hB7 (Nat.le_refl _)) HR7.out)
          have HB07 := Lib.hid (below_then HB06.out hB7)
          have HAW := Lib.hid (partAwake_calls w7)
          clear hB7 ho7
          go_wp2_with fail
          refine HS1.out.mono ?_
          rintro e w8 ⟨rfl, rfl⟩
          go_wp2_with fail
          refine HS2.out.mono ?_
          rintro e w8 ⟨rfl, rfl⟩
          go_wp2_with fail
          refine HAW.out.mono ?_
          rintro e w8 ⟨rfl, hB8⟩
          have HB08 := Lib.hid (below_then HB07.out hB8)
          clear hB8
          go_wp2
          go_ret
          exact ⟨rfl, HB08.out⟩
  · have HS := Lib.hid (partShort_lit w [(A, m, c)] 1 #[.slice A m c] rfl rfl 22 (by decide) false (by simp [h2]))
    go_enter Try.func6, Try.ntmps6
    go_wp2_with fail
    refine HS.out.mono ?_
    rintro e w1 ⟨rfl, rfl⟩
    go_wp2_with fail
    refine HAW.out.mono ?_
    rintro e w2 ⟨rfl, hB2⟩
    have HB2 := Lib.hid (below_then HB0.out hB2)
    clear hB2
    go_wp2
    go_ret
    exact ⟨rfl, HB2.out⟩
end Go.Proofs.Ytimicibalhaljaa.B64
