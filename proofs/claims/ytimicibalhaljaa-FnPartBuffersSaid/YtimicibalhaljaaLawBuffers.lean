/- The walk of the law FnPartBuffers; no condition on the lengths. -/
import Derived.Test.YtimicibalhaljaaPartImpl
import Derived.Test.YtimicibalhaljaaLawDecode
set_option linter.unusedVariables false
set_option linter.unusedSimpArgs false
namespace Go.Proofs.Ytimicibalhaljaa.B64
open Go.RowKit Go.Proofs.Ytimicibalhaljaa.K Go.Proofs.Ytimicibalhaljaa.Own
set_option maxRecDepth 100000 in
set_option maxHeartbeats 4000000 in
theorem FnPartBuffers_calls (w : World) (ma : Nat) (Aa : Option Addr) (ca : Nat) (la : List UInt8) (hrba : RB w Aa ma la) (hcapa : ma ≤ ca) (mb : Nat) (Ab : Option Addr) (cb : Nat) (lb : List UInt8) (hrbb : RB w Ab mb lb) (hcapb : mb ≤ cb) (mh : Nat) (Ah : Option Addr) (ch : Nat) (lh : List UInt8) (hrbh : RB w Ah mh lh) (hcaph : mh ≤ ch) (mp : Nat) (Ap : Option Addr) (cp : Nat) (lp : List UInt8) (hrbp : RB w Ap mp lp) (hcapp : mp ≤ cp) (en : Bool) :
    Calls Try.prog 11 #[.slice Aa ma ca, .slice Ab mb cb, .slice Ah mh ch, .slice Ap mp cp, .bool en] w fun e w' => e = .returned (.bool true) ∧ Below w.heap.size w w' := by
  have HRa := Lib.hid hrba
  have HCCa := Lib.hid hcapa
  have HLLa := Lib.hid hrba.len
  have HRb := Lib.hid hrbb
  have HCCb := Lib.hid hcapb
  have HLLb := Lib.hid hrbb.len
  have HRh := Lib.hid hrbh
  have HCCh := Lib.hid hcaph
  have HLLh := Lib.hid hrbh.len
  have HRp := Lib.hid hrbp
  have HCCp := Lib.hid hcapp
  have HLLp := Lib.hid hrbp.len
  clear hrba hcapa hrbb hcapb hrbh hcaph hrbp hcapp
  by_cases hbiga : ma > 2147483647
  · have hbi : (2147483647 : Int) < (ma : Int) := by omega
    go_enter Try.func11, Try.ntmps11
    go_wp2
    go_ret
    exact ⟨rfl, Below.refl _ _⟩
  have hbia : ¬ (2147483647 : Int) < (ma : Int) := by omega
  by_cases hbigb : mb > 2147483647
  · have hbi : (2147483647 : Int) < (mb : Int) := by omega
    go_enter Try.func11, Try.ntmps11
    go_wp2
    go_ret
    exact ⟨rfl, Below.refl _ _⟩
  have hbib : ¬ (2147483647 : Int) < (mb : Int) := by omega
  by_cases hbigh : mh > 2147483647
  · have hbi : (2147483647 : Int) < (mh : Int) := by omega
    go_enter Try.func11, Try.ntmps11
    go_wp2
    go_ret
    exact ⟨rfl, Below.refl _ _⟩
  have hbih : ¬ (2147483647 : Int) < (mh : Int) := by omega
  by_cases hbigp : mp > 2147483647
  · have hbi : (2147483647 : Int) < (mp : Int) := by omega
    go_enter Try.func11, Try.ntmps11
    go_wp2
    go_ret
    exact ⟨rfl, Below.refl _ _⟩
  have hbip : ¬ (2147483647 : Int) < (mp : Int) := by omega
  have HBB0 := Lib.hid (below_alloc' (Below.refl w.heap.size w) (.cells #[.slice Aa ma ca, .slice Ab mb cb, .slice Ah mh ch, .slice Ap mp cp] 22))
  obtain ⟨sh, hsh⟩ : ∃ sh : Bool, sh = ([(Aa, ma, ca), (Ab, mb, cb), (Ah, mh, ch), (Ap, mp, cp)] : List (Option Addr × Nat × Nat)).all fun x => decide (x.2.1 ≤ 2000) := ⟨_, rfl⟩
  have HSH := Lib.hid (partShort_lit w [(Aa, ma, ca), (Ab, mb, cb), (Ah, mh, ch), (Ap, mp, cp)] 4 #[.slice Aa ma ca, .slice Ab mb cb, .slice Ah mh ch, .slice Ap mp cp] rfl rfl 22 (by decide) sh hsh.symm)
  cases sh with
  | false =>
    clear hsh
    obtain ⟨w0, hw0⟩ : ∃ w0, w0 = w.alloc (.cells #[.slice Aa ma ca, .slice Ab mb cb, .slice Ah mh ch, .slice Ap mp cp] 22) := ⟨_, rfl⟩
    have HAW := Lib.hid (partAwake_calls (w.alloc (.cells #[.slice Aa ma ca, .slice Ab mb cb, .slice Ah mh ch, .slice Ap mp cp] 22)))
    clear hw0
    go_enter Try.func11, Try.ntmps11
    go_wp2_with fail
    refine HSH.out.mono ?_
    rintro e w1 ⟨rfl, rfl⟩
    go_wp2_with fail
    refine HAW.out.mono ?_
    rintro e w2 ⟨rfl, hB2⟩
    have HB2 := Lib.hid (below_then HBB0.out hB2)
    clear hB2
    go_wp2
    go_ret
    exact ⟨rfl, HB2.out⟩
  | true =>
    have hall : ma ≤ 2000 ∧ mb ≤ 2000 ∧ mh ≤ 2000 ∧ mp ≤ 2000 := by simpa [and_assoc] using hsh.symm
    obtain ⟨hlea, hleb, hleh, hlep⟩ := hall
    clear hsh
    go_enter Try.func11, Try.ntmps11
    go_wp2_with fail
    refine HSH.out.mono ?_
    rintro e w1 ⟨rfl, rfl⟩
    have HBB0 : Hid (Below w.heap.size w (w.alloc (.cells #[.slice Aa ma ca, .slice Ab mb cb, .slice Ah mh ch, .slice Ap mp cp] 22))) := HBB0
    have HP1 := Lib.hid (partOwn_n (w.alloc (.cells #[.slice Aa ma ca, .slice Ab mb cb, .slice Ah mh ch, .slice Ap mp cp] 22)) Aa ma ca la (HRa.out.below HBB0.out (Nat.le_refl _)) (by omega))
    go_wp2_with fail
    refine HP1.out.mono ?_
    rintro e w1 ⟨A1x, c1x, rfl, hcc, hoo, hB⟩
    have HR1x : Hid (RB w1 A1x ma la) := Lib.hid (Reads.of_own hoo)
    have HCC1x := Lib.hid hcc
    have HS1 := Lib.hid hB
    have HBB1 := Lib.hid (below_then HBB0.out hB)
    clear hoo hcc hB
    have HP2 := Lib.hid (partOwn_n w1 Ah mh ch lh (HRh.out.below HBB1.out (Nat.le_refl _)) (by omega))
    go_wp2_with fail
    refine HP2.out.mono ?_
    rintro e w2 ⟨A2x, c2x, rfl, hcc, hoo, hB⟩
    have HR2x : Hid (RB w2 A2x mh lh) := Lib.hid (Reads.of_own hoo)
    have HCC2x := Lib.hid hcc
    have HS2 := Lib.hid hB
    have HBB2 := Lib.hid (below_then HBB1.out hB)
    clear hoo hcc hB
    have HP3 := Lib.hid (partOwn_n w2 Ap mp cp lp (HRp.out.below HBB2.out (Nat.le_refl _)) (by omega))
    go_wp2_with fail
    refine HP3.out.mono ?_
    rintro e w3 ⟨A3x, c3x, rfl, hcc, hoo, hB⟩
    have HR3x : Hid (RB w3 A3x mp lp) := Lib.hid (Reads.of_own hoo)
    have HCC3x := Lib.hid hcc
    have HS3 := Lib.hid hB
    have HBB3 := Lib.hid (below_then HBB2.out hB)
    clear hoo hcc hB
    have HP4 := Lib.hid (partOwn_n w3 Ah mh ch lh (HRh.out.below HBB3.out (Nat.le_refl _)) (by omega))
    go_wp2_with fail
    refine HP4.out.mono ?_
    rintro e w4 ⟨A4x, c4x, rfl, hcc, hoo, hB⟩
    have HR4x : Hid (RB w4 A4x mh lh) := Lib.hid (Reads.of_own hoo)
    have HCC4x := Lib.hid hcc
    have HS4 := Lib.hid hB
    have HBB4 := Lib.hid (below_then HBB3.out hB)
    clear hoo hcc hB
    have HP5 := Lib.hid (Joined_calls en w4 A1x A2x A3x A4x ma c1x mh c2x mp c3x mh c4x la lh lp lh (RB.below (RB.below (RB.below HR1x.out HS2.out (Nat.le_refl _)) HS3.out (Nat.le_refl _)) HS4.out (Nat.le_refl _)) (by omega) (RB.below (RB.below HR2x.out HS3.out (Nat.le_refl _)) HS4.out (Nat.le_refl _)) (by omega) (RB.below HR3x.out HS4.out (Nat.le_refl _)) (by omega) HR4x.out (by omega))
    go_wp2_with fail
    refine HP5.out.mono ?_
    rintro e w5 ⟨Ax, mx, cx, rfl, hcc, hnn, hoo, hB⟩
    have HNx := Lib.hid hnn
    clear hnn
    have HRx : Hid (RB w5 Ax mx (joinL en lh lp lh)) := Lib.hid (Reads.of_own hoo)
    have HCCx := Lib.hid hcc
    have HS5 := Lib.hid hB
    have HBB5 := Lib.hid (below_then HBB4.out hB)
    clear hoo hcc hB
    have HP6 := Lib.hid (partOwn_n w5 Ab mb cb lb (HRb.out.below HBB5.out (Nat.le_refl _)) (by omega))
    go_wp2_with fail
    refine HP6.out.mono ?_
    rintro e w6 ⟨A1y, c1y, rfl, hcc, hoo, hB⟩
    have HR1y : Hid (RB w6 A1y mb lb) := Lib.hid (Reads.of_own hoo)
    have HCC1y := Lib.hid hcc
    have HS6 := Lib.hid hB
    have HBB6 := Lib.hid (below_then HBB5.out hB)
    clear hoo hcc hB
    have HP7 := Lib.hid (partOwn_n w6 Ah mh ch lh (HRh.out.below HBB6.out (Nat.le_refl _)) (by omega))
    go_wp2_with fail
    refine HP7.out.mono ?_
    rintro e w7 ⟨A2y, c2y, rfl, hcc, hoo, hB⟩
    have HR2y : Hid (RB w7 A2y mh lh) := Lib.hid (Reads.of_own hoo)
    have HCC2y := Lib.hid hcc
    have HS7 := Lib.hid hB
    have HBB7 := Lib.hid (below_then HBB6.out hB)
    clear hoo hcc hB
    have HP8 := Lib.hid (partOwn_n w7 Ap mp cp lp (HRp.out.below HBB7.out (Nat.le_refl _)) (by omega))
    go_wp2_with fail
    refine HP8.out.mono ?_
    rintro e w8 ⟨A3y, c3y, rfl, hcc, hoo, hB⟩
    have HR3y : Hid (RB w8 A3y mp lp) := Lib.hid (Reads.of_own hoo)
    have HCC3y := Lib.hid hcc
    have HS8 := Lib.hid hB
    have HBB8 := Lib.hid (below_then HBB7.out hB)
    clear hoo hcc hB
    have HP9 := Lib.hid (partOwn_n w8 Ah mh ch lh (HRh.out.below HBB8.out (Nat.le_refl _)) (by omega))
    go_wp2_with fail
    refine HP9.out.mono ?_
    rintro e w9 ⟨A4y, c4y, rfl, hcc, hoo, hB⟩
    have HR4y : Hid (RB w9 A4y mh lh) := Lib.hid (Reads.of_own hoo)
    have HCC4y := Lib.hid hcc
    have HS9 := Lib.hid hB
    have HBB9 := Lib.hid (below_then HBB8.out hB)
    clear hoo hcc hB
    have HP10 := Lib.hid (Joined_calls en w9 A1y A2y A3y A4y mb c1y mh c2y mp c3y mh c4y lb lh lp lh (RB.below (RB.below (RB.below HR1y.out HS7.out (Nat.le_refl _)) HS8.out (Nat.le_refl _)) HS9.out (Nat.le_refl _)) (by omega) (RB.below (RB.below HR2y.out HS8.out (Nat.le_refl _)) HS9.out (Nat.le_refl _)) (by omega) (RB.below HR3y.out HS9.out (Nat.le_refl _)) (by omega) HR4y.out (by omega))
    go_wp2_with fail
    refine HP10.out.mono ?_
    rintro e w10 ⟨Ay, my, cy, rfl, hcc, hnn, hoo, hB⟩
    have HNy := Lib.hid hnn
    clear hnn
    have HRy : Hid (RB w10 Ay my (joinL en lh lp lh)) := Lib.hid (Reads.of_own hoo)
    have HCCy := Lib.hid hcc
    have HS10 := Lib.hid hB
    have HBB10 := Lib.hid (below_then HBB9.out hB)
    clear hoo hcc hB
    have HPS := Lib.hid (PartSame_yes w10 Ax Ay (joinL en lh lp lh) mx cx my cy (RB.below (RB.below (RB.below (RB.below (RB.below HRx.out HS6.out (Nat.le_refl _)) HS7.out (Nat.le_refl _)) HS8.out (Nat.le_refl _)) HS9.out (Nat.le_refl _)) HS10.out (Nat.le_refl _)) HRy.out)
    go_wp2_with fail
    refine HPS.out.mono ?_
    rintro e w' ⟨rfl, rfl⟩
    clear HPS
    have HP11 := Lib.hid (partOwn_n w10 Aa ma ca la (HRa.out.below HBB10.out (Nat.le_refl _)) (by omega))
    go_wp2_with fail
    refine HP11.out.mono ?_
    rintro e w11 ⟨A1u, c1u, rfl, hcc, hoo, hB⟩
    have HR1u : Hid (RB w11 A1u ma la) := Lib.hid (Reads.of_own hoo)
    have HCC1u := Lib.hid hcc
    have HS11 := Lib.hid hB
    have HBB11 := Lib.hid (below_then HBB10.out hB)
    clear hoo hcc hB
    have HP12 := Lib.hid (partOwn_n w11 Ah mh ch lh (HRh.out.below HBB11.out (Nat.le_refl _)) (by omega))
    go_wp2_with fail
    refine HP12.out.mono ?_
    rintro e w12 ⟨A2u, c2u, rfl, hcc, hoo, hB⟩
    have HR2u : Hid (RB w12 A2u mh lh) := Lib.hid (Reads.of_own hoo)
    have HCC2u := Lib.hid hcc
    have HS12 := Lib.hid hB
    have HBB12 := Lib.hid (below_then HBB11.out hB)
    clear hoo hcc hB
    have HP13 := Lib.hid (partOwn_n w12 Ap mp cp lp (HRp.out.below HBB12.out (Nat.le_refl _)) (by omega))
    go_wp2_with fail
    refine HP13.out.mono ?_
    rintro e w13 ⟨A3u, c3u, rfl, hcc, hoo, hB⟩
    have HR3u : Hid (RB w13 A3u mp lp) := Lib.hid (Reads.of_own hoo)
    have HCC3u := Lib.hid hcc
    have HS13 := Lib.hid hB
    have HBB13 := Lib.hid (below_then HBB12.out hB)
    clear hoo hcc hB
    have HP14 := Lib.hid (Signing_calls en w13 A1u A2u A3u ma c1u mh c2u mp c3u la lh lp (RB.below (RB.below HR1u.out HS12.out (Nat.le_refl _)) HS13.out (Nat.le_refl _)) (by omega) (RB.below HR2u.out HS13.out (Nat.le_refl _)) (by omega) HR3u.out (by omega))
    go_wp2_with fail
    refine HP14.out.mono ?_
    rintro e w14 ⟨Au, mu, cu, rfl, hcc, hnn, hoo, hB⟩
    have HNu := Lib.hid hnn
    clear hnn
    have HRu : Hid (RB w14 Au mu (signL en lh lp)) := Lib.hid (Reads.of_own hoo)
    have HCCu := Lib.hid hcc
    have HS14 := Lib.hid hB
    have HBB14 := Lib.hid (below_then HBB13.out hB)
    clear hoo hcc hB
    have HP15 := Lib.hid (partOwn_n w14 Ab mb cb lb (HRb.out.below HBB14.out (Nat.le_refl _)) (by omega))
    go_wp2_with fail
    refine HP15.out.mono ?_
    rintro e w15 ⟨A1v, c1v, rfl, hcc, hoo, hB⟩
    have HR1v : Hid (RB w15 A1v mb lb) := Lib.hid (Reads.of_own hoo)
    have HCC1v := Lib.hid hcc
    have HS15 := Lib.hid hB
    have HBB15 := Lib.hid (below_then HBB14.out hB)
    clear hoo hcc hB
    have HP16 := Lib.hid (partOwn_n w15 Ah mh ch lh (HRh.out.below HBB15.out (Nat.le_refl _)) (by omega))
    go_wp2_with fail
    refine HP16.out.mono ?_
    rintro e w16 ⟨A2v, c2v, rfl, hcc, hoo, hB⟩
    have HR2v : Hid (RB w16 A2v mh lh) := Lib.hid (Reads.of_own hoo)
    have HCC2v := Lib.hid hcc
    have HS16 := Lib.hid hB
    have HBB16 := Lib.hid (below_then HBB15.out hB)
    clear hoo hcc hB
    have HP17 := Lib.hid (partOwn_n w16 Ap mp cp lp (HRp.out.below HBB16.out (Nat.le_refl _)) (by omega))
    go_wp2_with fail
    refine HP17.out.mono ?_
    rintro e w17 ⟨A3v, c3v, rfl, hcc, hoo, hB⟩
    have HR3v : Hid (RB w17 A3v mp lp) := Lib.hid (Reads.of_own hoo)
    have HCC3v := Lib.hid hcc
    have HS17 := Lib.hid hB
    have HBB17 := Lib.hid (below_then HBB16.out hB)
    clear hoo hcc hB
    have HP18 := Lib.hid (Signing_calls en w17 A1v A2v A3v mb c1v mh c2v mp c3v lb lh lp (RB.below (RB.below HR1v.out HS16.out (Nat.le_refl _)) HS17.out (Nat.le_refl _)) (by omega) (RB.below HR2v.out HS17.out (Nat.le_refl _)) (by omega) HR3v.out (by omega))
    go_wp2_with fail
    refine HP18.out.mono ?_
    rintro e w18 ⟨Av, mv, cv, rfl, hcc, hnn, hoo, hB⟩
    have HNv := Lib.hid hnn
    clear hnn
    have HRv : Hid (RB w18 Av mv (signL en lh lp)) := Lib.hid (Reads.of_own hoo)
    have HCCv := Lib.hid hcc
    have HS18 := Lib.hid hB
    have HBB18 := Lib.hid (below_then HBB17.out hB)
    clear hoo hcc hB
    have HPS := Lib.hid (PartSame_yes w18 Au Av (signL en lh lp) mu cu mv cv (RB.below (RB.below (RB.below (RB.below HRu.out HS15.out (Nat.le_refl _)) HS16.out (Nat.le_refl _)) HS17.out (Nat.le_refl _)) HS18.out (Nat.le_refl _)) HRv.out)
    go_wp2_with fail
    refine HPS.out.mono ?_
    rintro e w' ⟨rfl, rfl⟩
    clear HPS
    have HP19 := Lib.hid (partOwn_n w18 Aa ma ca la (HRa.out.below HBB18.out (Nat.le_refl _)) (by omega))
    go_wp2_with fail
    refine HP19.out.mono ?_
    rintro e w19 ⟨A1r, c1r, rfl, hcc, hoo, hB⟩
    have HR1r : Hid (RB w19 A1r ma la) := Lib.hid (Reads.of_own hoo)
    have HCC1r := Lib.hid hcc
    have HS19 := Lib.hid hB
    have HBB19 := Lib.hid (below_then HBB18.out hB)
    clear hoo hcc hB
    have HP20 := Lib.hid (partOwn_n w19 Ah mh ch lh (HRh.out.below HBB19.out (Nat.le_refl _)) (by omega))
    go_wp2_with fail
    refine HP20.out.mono ?_
    rintro e w20 ⟨A2r, c2r, rfl, hcc, hoo, hB⟩
    have HR2r : Hid (RB w20 A2r mh lh) := Lib.hid (Reads.of_own hoo)
    have HCC2r := Lib.hid hcc
    have HS20 := Lib.hid hB
    have HBB20 := Lib.hid (below_then HBB19.out hB)
    clear hoo hcc hB
    have HP21 := Lib.hid (Prefix_calls w20 A1r A2r ma c1r mh c2r la lh (RB.below HR1r.out HS20.out (Nat.le_refl _)) (by omega) HR2r.out (by omega))
    go_wp2_with fail
    refine HP21.out.mono ?_
    rintro e w21 ⟨Ar, mr, cr, rfl, hcc, hnn, hoo, hB⟩
    have HNr := Lib.hid hnn
    clear hnn
    have HRr : Hid (RB w21 Ar mr (encRaw alURL lh ++ [46])) := Lib.hid (Reads.of_own hoo)
    have HCCr := Lib.hid hcc
    have HS21 := Lib.hid hB
    have HBB21 := Lib.hid (below_then HBB20.out hB)
    clear hoo hcc hB
    have HP22 := Lib.hid (partOwn_n w21 Ab mb cb lb (HRb.out.below HBB21.out (Nat.le_refl _)) (by omega))
    go_wp2_with fail
    refine HP22.out.mono ?_
    rintro e w22 ⟨A1s, c1s, rfl, hcc, hoo, hB⟩
    have HR1s : Hid (RB w22 A1s mb lb) := Lib.hid (Reads.of_own hoo)
    have HCC1s := Lib.hid hcc
    have HS22 := Lib.hid hB
    have HBB22 := Lib.hid (below_then HBB21.out hB)
    clear hoo hcc hB
    have HP23 := Lib.hid (partOwn_n w22 Ah mh ch lh (HRh.out.below HBB22.out (Nat.le_refl _)) (by omega))
    go_wp2_with fail
    refine HP23.out.mono ?_
    rintro e w23 ⟨A2s, c2s, rfl, hcc, hoo, hB⟩
    have HR2s : Hid (RB w23 A2s mh lh) := Lib.hid (Reads.of_own hoo)
    have HCC2s := Lib.hid hcc
    have HS23 := Lib.hid hB
    have HBB23 := Lib.hid (below_then HBB22.out hB)
    clear hoo hcc hB
    have HP24 := Lib.hid (Prefix_calls w23 A1s A2s mb c1s mh c2s lb lh (RB.below HR1s.out HS23.out (Nat.le_refl _)) (by omega) HR2s.out (by omega))
    go_wp2_with fail
    refine HP24.out.mono ?_
    rintro e w24 ⟨As, ms, cs, rfl, hcc, hnn, hoo, hB⟩
    have HNs := Lib.hid hnn
    clear hnn
    have HRs : Hid (RB w24 As ms (encRaw alURL lh ++ [46])) := Lib.hid (Reads.of_own hoo)
    have HCCs := Lib.hid hcc
    have HS24 := Lib.hid hB
    have HBB24 := Lib.hid (below_then HBB23.out hB)
    clear hoo hcc hB
    have HPS := Lib.hid (PartSame_yes w24 Ar As (encRaw alURL lh ++ [46]) mr cr ms cs (RB.below (RB.below (RB.below HRr.out HS22.out (Nat.le_refl _)) HS23.out (Nat.le_refl _)) HS24.out (Nat.le_refl _)) HRs.out)
    go_wp2_with fail
    refine HPS.out.mono ?_
    rintro e w' ⟨rfl, rfl⟩
    clear HPS
    have HP25 := Lib.hid (partAwake_calls w24)
    go_wp2_with fail
    refine HP25.out.mono ?_
    rintro e w25 ⟨rfl, hB⟩
    have HBB25 := Lib.hid (below_then HBB24.out hB)
    clear hB
    go_wp2
    go_ret
    exact ⟨rfl, HBB25.out⟩
end Go.Proofs.Ytimicibalhaljaa.B64
