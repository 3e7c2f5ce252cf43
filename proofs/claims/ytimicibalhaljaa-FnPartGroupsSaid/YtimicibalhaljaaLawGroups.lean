/- The walk of the law FnPartGroups; no condition on the lengths. -/
import Derived.Test.YtimicibalhaljaaPartBehind
set_option linter.unusedVariables false
set_option linter.unusedSimpArgs false
namespace Go.Proofs.Ytimicibalhaljaa.B64
open Go.RowKit Go.Proofs.Ytimicibalhaljaa.K Go.Proofs.Ytimicibalhaljaa.Own
set_option maxRecDepth 100000 in
set_option maxHeartbeats 4000000 in
theorem FnPartGroups_calls (w : World) (ma : Nat) (Aa : Option Addr) (ca : Nat) (la : List UInt8) (hrba : RB w Aa ma la) (hcapa : ma ≤ ca) (mb : Nat) (Ab : Option Addr) (cb : Nat) (lb : List UInt8) (hrbb : RB w Ab mb lb) (hcapb : mb ≤ cb) :
    Calls Try.prog 4 #[.slice Aa ma ca, .slice Ab mb cb] w fun e w' => e = .returned (.bool true) ∧ Below w.heap.size w w' := by
  have HRa := Lib.hid hrba
  have HCCa := Lib.hid hcapa
  have HLLa := Lib.hid hrba.len
  have HRb := Lib.hid hrbb
  have HCCb := Lib.hid hcapb
  have HLLb := Lib.hid hrbb.len
  clear hrba hcapa hrbb hcapb
  by_cases hbiga : ma > 2147483647
  · have hbi : (2147483647 : Int) < (ma : Int) := by omega
    go_enter Try.func4, Try.ntmps4
    go_wp2
    go_ret
    exact ⟨rfl, Below.refl _ _⟩
  have hbia : ¬ (2147483647 : Int) < (ma : Int) := by omega
  by_cases hbigb : mb > 2147483647
  · have hbi : (2147483647 : Int) < (mb : Int) := by omega
    go_enter Try.func4, Try.ntmps4
    go_wp2
    go_ret
    exact ⟨rfl, Below.refl _ _⟩
  have hbib : ¬ (2147483647 : Int) < (mb : Int) := by omega
  have HBB0 := Lib.hid (below_alloc' (Below.refl w.heap.size w) (.cells #[.slice Aa ma ca, .slice Ab mb cb] 22))
  obtain ⟨sh, hsh⟩ : ∃ sh : Bool, sh = ([(Aa, ma, ca), (Ab, mb, cb)] : List (Option Addr × Nat × Nat)).all fun x => decide (x.2.1 ≤ 2000) := ⟨_, rfl⟩
  have HSH := Lib.hid (partShort_lit w [(Aa, ma, ca), (Ab, mb, cb)] 2 #[.slice Aa ma ca, .slice Ab mb cb] rfl rfl 22 (by decide) sh hsh.symm)
  cases sh with
  | false =>
    clear hsh
    obtain ⟨w0, hw0⟩ : ∃ w0, w0 = w.alloc (.cells #[.slice Aa ma ca, .slice Ab mb cb] 22) := ⟨_, rfl⟩
    have HAW := Lib.hid (partAwake_calls (w.alloc (.cells #[.slice Aa ma ca, .slice Ab mb cb] 22)))
    clear hw0
    go_enter Try.func4, Try.ntmps4
    go_wp2_with fail
    refine HSH.out.mono ?_
    rintro e w1 ⟨rfl, rfl⟩
    go_wp2_with fail
    refine HAW.out.mono ?_
    rintro e w2 ⟨rfl, hB2⟩
    have HB2 := Lib.hid (below_then HBB0.out hB2)
    clear hB2
    go_wp2
    go_ret
    exact ⟨rfl, HB2.out⟩
  | true =>
    have hall : ma ≤ 2000 ∧ mb ≤ 2000 := by simpa [and_assoc] using hsh.symm
    obtain ⟨hlea, hleb⟩ := hall
    clear hsh
    go_enter Try.func4, Try.ntmps4
    go_wp2_with fail
    refine HSH.out.mono ?_
    rintro e w1 ⟨rfl, rfl⟩
    have HBB0 : Hid (Below w.heap.size w (w.alloc (.cells #[.slice Aa ma ca, .slice Ab mb cb] 22))) := HBB0
    obtain ⟨i0, hi, hz0, hz1, hz2⟩ := info_parts info_u8
    have HI := Lib.hid (And.intro hi (And.intro hz0 (And.intro hz1 hz2)))
    obtain ⟨q, hq⟩ : ∃ q, q = ma / 3 := ⟨_, rfl⟩
    have hqi : (ma : Int) / 3 = (q : Int) := by omega
    have hq3 : q * 3 ≤ ma := by omega
    obtain ⟨Ag, hch, hrh⟩ := cut_h (P := Try.prog) Try.underlying22 hi hz1 .i64 HRa.out HCCa.out ((q : Int) * 3) (q * 3) (by omega) hq3
    obtain ⟨G, hG⟩ : ∃ G, G = la.take (q * 3) := ⟨_, rfl⟩
    obtain ⟨Q, hQ⟩ : ∃ Q, Q = q * 3 := ⟨_, rfl⟩
    have hQi : (q : Int) * 3 = (Q : Int) := by omega
    have hr2 : RB w Ag Q G := by
      show Reads _ _ _ _ _
      rw [Nat.mul_one] at hrh
      rw [hG, hQ]
      simpa [bys, List.map_take] using hrh
    rw [← hQ, hQi] at hch
    have hQc : Q ≤ ca := by have := HCCa.out; omega
    have hQl : Q ≤ 2000 := by omega
    have HRg := Lib.hid hr2
    have HGL : Hid (G.length % 3 = 0 ∧ G.length = Q) := Lib.hid (by
      have := HLLa.out
      rw [hG, List.length_take]
      omega)
    have HCCg := Lib.hid hQc
    clear hr2 hrh hi hz0 hz1 hz2 hq hG hQ
    have HP1 := Lib.hid (partOwn_n (w.alloc (.cells #[.slice Aa ma ca, .slice Ab mb cb] 22)) Ag Q ca G (HRg.out.below HBB0.out (Nat.le_refl _)) (by omega))
    go_wp2_with fail
    refine HP1.out.mono ?_
    rintro e w1 ⟨A1o, c1o, rfl, hcc, hoo, hB⟩
    have HR1o : Hid (RB w1 A1o Q G) := Lib.hid (Reads.of_own hoo)
    have HO1o := Lib.hid hoo
    have HCC1o := Lib.hid hcc
    have HS1 := Lib.hid hB
    have HBB1 := Lib.hid (below_then HBB0.out hB)
    clear hoo hcc hB
    have HENC : Hid (encRaw alURL (G ++ lb) = encRaw alURL G ++ encRaw alURL lb) := Lib.hid (by rw [encRaw_eq, encRaw_eq, encRaw_eq, encL_app _ _ _ _ HGL.out.1])
    have HCH := Lib.hid (HS1.out)
    have HOO := Lib.hid (HO1o.out)
    have HRS := Lib.hid ((HRb.out.below HBB1.out (Nat.le_refl _)))
    go_wp2_with (at_builtin; refine wpList_append_any _ rfl (.tmp 27) (.tmp 28) 22 rfl ((w.alloc (.cells #[.slice Aa ma ca, .slice Ab mb cb] 22)).heap.size) 5 i0 (.int .u8 0) 1 1 Try.underlying22 HI.out.1 HI.out.2.1 HI.out.2.2.1 HI.out.2.2.2 rfl (by decide) _ Q (bys G) rfl HOO.out Ab mb cb (bys lb) rfl HRS.out (bys_one _) (by unfold maxLen; omega) (by omega) HCH.out.size ?_; intro v3 w2 hown3 hg3 hat3; obtain ⟨Aboth, cboth, hv3, hcc, hrr⟩ := own_form hown3; subst hv3; have HRboth : Hid (RB w2 Aboth (Q + mb) (G ++ lb)) := Lib.hid (by show Reads _ _ _ _ _; rw [bys_append]; exact hrr); have HCCboth := Lib.hid hcc; have HJ2 := Lib.hid (HCH.out.grown hg3 HCH.out.size (fun k hk => own_block_ge HOO.out k hk)); have HBB2 := Lib.hid (below_then HBB0.out HJ2.out); clear hown3 hg3 hat3 hcc hrr)
    clear HCH HOO HRS
    have HP3 := Lib.hid ((Encoded_calls w2 Aboth (Q + mb) cboth (G ++ lb) HRboth.out HCCboth.out (by omega)).mono fun _ _ h => Made.cast HENC.out (Made.of h))
    go_wp2_with fail
    refine HP3.out.mono ?_
    rintro e w3 ⟨Ax, mx, cx, rfl, hcc, hnn, hoo, hB⟩
    have HNx := Lib.hid hnn
    clear hnn
    have HRx : Hid (RB w3 Ax mx (encRaw alURL G ++ encRaw alURL lb)) := Lib.hid (Reads.of_own hoo)
    have HOx := Lib.hid hoo
    have HCCx := Lib.hid hcc
    have HS3 := Lib.hid hB
    have HBB3 := Lib.hid (below_then HBB2.out hB)
    clear hoo hcc hB
    have HP4 := Lib.hid (partOwn_n w3 Ag Q ca G (HRg.out.below HBB3.out (Nat.le_refl _)) (by omega))
    go_wp2_with fail
    refine HP4.out.mono ?_
    rintro e w4 ⟨A2o, c2o, rfl, hcc, hoo, hB⟩
    have HR2o : Hid (RB w4 A2o Q G) := Lib.hid (Reads.of_own hoo)
    have HO2o := Lib.hid hoo
    have HCC2o := Lib.hid hcc
    have HS4 := Lib.hid hB
    have HBB4 := Lib.hid (below_then HBB3.out hB)
    clear hoo hcc hB
    have HP5 := Lib.hid ((Encoded_calls w4 A2o Q c2o G HR2o.out HCC2o.out (by omega)).mono fun _ _ h => Made.of h)
    go_wp2_with fail
    refine HP5.out.mono ?_
    rintro e w5 ⟨A3e, m3e, c3e, rfl, hcc, hnn, hoo, hB⟩
    have HN3e := Lib.hid hnn
    clear hnn
    have HR3e : Hid (RB w5 A3e m3e (encRaw alURL G)) := Lib.hid (Reads.of_own hoo)
    have HO3e := Lib.hid hoo
    have HCC3e := Lib.hid hcc
    have HS5 := Lib.hid hB
    have HBB5 := Lib.hid (below_then HBB4.out hB)
    clear hoo hcc hB
    have hbd3e : m3e ≤ 4000 := madeLen HN3e.out 4000 (enc_2000 HGL.out.2.symm hQl)
    have HP6 := Lib.hid (partOwn_n w5 A3e m3e c3e (encRaw alURL G) HR3e.out (by omega))
    go_wp2_with fail
    refine HP6.out.mono ?_
    rintro e w6 ⟨A4o, c4o, rfl, hcc, hoo, hB⟩
    have HR4o : Hid (RB w6 A4o m3e (encRaw alURL G)) := Lib.hid (Reads.of_own hoo)
    have HO4o := Lib.hid hoo
    have HCC4o := Lib.hid hcc
    have HS6 := Lib.hid hB
    have HBB6 := Lib.hid (below_then HBB5.out hB)
    clear hoo hcc hB
    have HP7 := Lib.hid (partOwn_n w6 Ab mb cb lb (HRb.out.below HBB6.out (Nat.le_refl _)) (by omega))
    go_wp2_with fail
    refine HP7.out.mono ?_
    rintro e w7 ⟨A5o, c5o, rfl, hcc, hoo, hB⟩
    have HR5o : Hid (RB w7 A5o mb lb) := Lib.hid (Reads.of_own hoo)
    have HO5o := Lib.hid hoo
    have HCC5o := Lib.hid hcc
    have HS7 := Lib.hid hB
    have HBB7 := Lib.hid (below_then HBB6.out hB)
    clear hoo hcc hB
    have HP8 := Lib.hid ((Encoded_calls w7 A5o mb c5o lb HR5o.out HCC5o.out (by omega)).mono fun _ _ h => Made.of h)
    go_wp2_with fail
    refine HP8.out.mono ?_
    rintro e w8 ⟨A6e, m6e, c6e, rfl, hcc, hnn, hoo, hB⟩
    have HN6e := Lib.hid hnn
    clear hnn
    have HR6e : Hid (RB w8 A6e m6e (encRaw alURL lb)) := Lib.hid (Reads.of_own hoo)
    have HO6e := Lib.hid hoo
    have HCC6e := Lib.hid hcc
    have HS8 := Lib.hid hB
    have HBB8 := Lib.hid (below_then HBB7.out hB)
    clear hoo hcc hB
    have hbd6e : m6e ≤ 4000 := madeLen HN6e.out 4000 (enc_2000 HLLb.out hleb)
    have HCH := Lib.hid ((below_then HS6.out (below_then HS7.out HS8.out)))
    have HOO := Lib.hid ((own_below (own_below HO4o.out HS7.out) HS8.out))
    have HRS := Lib.hid (HR6e.out)
    go_wp2_with (at_builtin; refine wpList_append_any _ rfl (.tmp 35) (.tmp 38) 22 rfl (w5.heap.size) 5 i0 (.int .u8 0) 1 1 Try.underlying22 HI.out.1 HI.out.2.1 HI.out.2.2.1 HI.out.2.2.2 rfl (by decide) _ m3e (bys (encRaw alURL G)) rfl HOO.out A6e m6e c6e (bys (encRaw alURL lb)) rfl HRS.out (bys_one _) (by unfold maxLen; omega) (by omega) HCH.out.size ?_; intro v3 w9 hown3 hg3 hat3; obtain ⟨Ay, cy, hv3, hcc, hrr⟩ := own_form hown3; subst hv3; have HRy : Hid (RB w9 Ay (m3e + m6e) (encRaw alURL G ++ encRaw alURL lb)) := Lib.hid (by show Reads _ _ _ _ _; rw [bys_append]; exact hrr); have HCCy := Lib.hid hcc; have HJ9 := Lib.hid (HCH.out.grown hg3 HCH.out.size (fun k hk => own_block_ge HOO.out k hk)); have HBB9 := Lib.hid (below_then HBB5.out HJ9.out); clear hown3 hg3 hat3 hcc hrr)
    clear HCH HOO HRS
    have HPS := Lib.hid (PartSame_yes w9 Ax Ay (encRaw alURL G ++ encRaw alURL lb) mx cx (m3e + m6e) cy (RB.below (RB.below (RB.below HRx.out HS4.out (Nat.le_refl _)) HS5.out (Nat.le_refl _)) HJ9.out (Nat.le_refl _)) HRy.out)
    go_wp2_with fail
    refine HPS.out.mono ?_
    rintro e w' ⟨rfl, rfl⟩
    clear HPS
    have HP10 := Lib.hid (partOwn_n w9 Ag Q ca G (HRg.out.below HBB9.out (Nat.le_refl _)) (by omega))
    go_wp2_with fail
    refine HP10.out.mono ?_
    rintro e w10 ⟨A7o, c7o, rfl, hcc, hoo, hB⟩
    have HR7o : Hid (RB w10 A7o Q G) := Lib.hid (Reads.of_own hoo)
    have HO7o := Lib.hid hoo
    have HCC7o := Lib.hid hcc
    have HS10 := Lib.hid hB
    have HBB10 := Lib.hid (below_then HBB9.out hB)
    clear hoo hcc hB
    have HP11 := Lib.hid ((Encoded_calls w10 A7o Q c7o G HR7o.out HCC7o.out (by omega)).mono fun _ _ h => Made.of h)
    go_wp2_with fail
    refine HP11.out.mono ?_
    rintro e w11 ⟨A8e, m8e, c8e, rfl, hcc, hnn, hoo, hB⟩
    have HN8e := Lib.hid hnn
    clear hnn
    have HR8e : Hid (RB w11 A8e m8e (encRaw alURL G)) := Lib.hid (Reads.of_own hoo)
    have HO8e := Lib.hid hoo
    have HCC8e := Lib.hid hcc
    have HS11 := Lib.hid hB
    have HBB11 := Lib.hid (below_then HBB10.out hB)
    clear hoo hcc hB
    have hbd8e : m8e ≤ 4000 := madeLen HN8e.out 4000 (enc_2000 HGL.out.2.symm hQl)
    have HP12 := Lib.hid (partOwn_n w11 Ab mb cb lb (HRb.out.below HBB11.out (Nat.le_refl _)) (by omega))
    go_wp2_with fail
    refine HP12.out.mono ?_
    rintro e w12 ⟨A9o, c9o, rfl, hcc, hoo, hB⟩
    have HR9o : Hid (RB w12 A9o mb lb) := Lib.hid (Reads.of_own hoo)
    have HO9o := Lib.hid hoo
    have HCC9o := Lib.hid hcc
    have HS12 := Lib.hid hB
    have HBB12 := Lib.hid (below_then HBB11.out hB)
    clear hoo hcc hB
    have HP13 := Lib.hid (EncodedBehind_calls w12 A8e A9o m8e c8e mb c9o (encRaw alURL G) lb (RB.below HR8e.out HS12.out (Nat.le_refl _)) (by omega) HR9o.out (by omega))
    go_wp2_with fail
    refine HP13.out.mono ?_
    rintro e w13 ⟨Az, mz, cz, rfl, hcc, hnn, hoo, hB⟩
    have HNz := Lib.hid hnn
    clear hnn
    have HRz : Hid (RB w13 Az mz (encRaw alURL G ++ encRaw alURL lb)) := Lib.hid (Reads.of_own hoo)
    have HOz := Lib.hid hoo
    have HCCz := Lib.hid hcc
    have HS13 := Lib.hid hB
    have HBB13 := Lib.hid (below_then HBB12.out hB)
    clear hoo hcc hB
    have HP14 := Lib.hid ((Encoded_calls w13 Aboth (Q + mb) cboth (G ++ lb) (RB.below (RB.below (RB.below (RB.below (RB.below (RB.below (RB.below (RB.below HRboth.out HS3.out (Nat.le_refl _)) HS4.out (Nat.le_refl _)) HS5.out (Nat.le_refl _)) HJ9.out (Nat.le_refl _)) HS10.out (Nat.le_refl _)) HS11.out (Nat.le_refl _)) HS12.out (Nat.le_refl _)) HS13.out (Nat.le_refl _)) HCCboth.out (by omega)).mono fun _ _ h => Made.cast HENC.out (Made.of h))
    go_wp2_with fail
    refine HP14.out.mono ?_
    rintro e w14 ⟨Av, mv, cv, rfl, hcc, hnn, hoo, hB⟩
    have HNv := Lib.hid hnn
    clear hnn
    have HRv : Hid (RB w14 Av mv (encRaw alURL G ++ encRaw alURL lb)) := Lib.hid (Reads.of_own hoo)
    have HOv := Lib.hid hoo
    have HCCv := Lib.hid hcc
    have HS14 := Lib.hid hB
    have HBB14 := Lib.hid (below_then HBB13.out hB)
    clear hoo hcc hB
    have HPS := Lib.hid (PartSame_yes w14 Az Av (encRaw alURL G ++ encRaw alURL lb) mz cz mv cv (RB.below HRz.out HS14.out (Nat.le_refl _)) HRv.out)
    go_wp2_with fail
    refine HPS.out.mono ?_
    rintro e w' ⟨rfl, rfl⟩
    clear HPS
    have HP15 := Lib.hid (partAwake_calls w14)
    go_wp2_with fail
    refine HP15.out.mono ?_
    rintro e w15 ⟨rfl, hB⟩
    have HBB15 := Lib.hid (below_then HBB14.out hB)
    clear hB
    go_wp2
    go_ret
    exact ⟨rfl, HBB15.out⟩
end Go.Proofs.Ytimicibalhaljaa.B64
