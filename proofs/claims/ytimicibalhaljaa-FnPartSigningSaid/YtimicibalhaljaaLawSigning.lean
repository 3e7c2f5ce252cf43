/- The walk of the law FnPartSigning; no condition on the lengths. -/
import Derived.Test.YtimicibalhaljaaPartSign
set_option linter.unusedVariables false
set_option linter.unusedSimpArgs false
namespace Go.Proofs.Ytimicibalhaljaa.B64
open Go.RowKit Go.Proofs.Ytimicibalhaljaa.K Go.Proofs.Ytimicibalhaljaa.Own
set_option maxRecDepth 100000 in
set_option maxHeartbeats 4000000 in
theorem FnPartSigning_calls (w : World) (mb : Nat) (Ab : Option Addr) (cb : Nat) (lb : List UInt8) (hrbb : RB w Ab mb lb) (hcapb : mb ≤ cb) (mh : Nat) (Ah : Option Addr) (ch : Nat) (lh : List UInt8) (hrbh : RB w Ah mh lh) (hcaph : mh ≤ ch) (mp : Nat) (Ap : Option Addr) (cp : Nat) (lp : List UInt8) (hrbp : RB w Ap mp lp) (hcapp : mp ≤ cp) (en : Bool) :
    Calls Try.prog 8 #[.slice Ab mb cb, .slice Ah mh ch, .slice Ap mp cp, .bool en] w fun e w' => e = .returned (.bool true) ∧ Below w.heap.size w w' := by
  have HRb := Lib.hid hrbb
  have HCCb := Lib.hid hcapb
  have HLLb := Lib.hid hrbb.len
  have HRh := Lib.hid hrbh
  have HCCh := Lib.hid hcaph
  have HLLh := Lib.hid hrbh.len
  have HRp := Lib.hid hrbp
  have HCCp := Lib.hid hcapp
  have HLLp := Lib.hid hrbp.len
  clear hrbb hcapb hrbh hcaph hrbp hcapp
  by_cases hbigb : mb > 2147483647
  · have hbi : (2147483647 : Int) < (mb : Int) := by omega
    go_enter Try.func8, Try.ntmps8
    go_wp2
    go_ret
    exact ⟨rfl, Below.refl _ _⟩
  have hbib : ¬ (2147483647 : Int) < (mb : Int) := by omega
  by_cases hbigh : mh > 2147483647
  · have hbi : (2147483647 : Int) < (mh : Int) := by omega
    go_enter Try.func8, Try.ntmps8
    go_wp2
    go_ret
    exact ⟨rfl, Below.refl _ _⟩
  have hbih : ¬ (2147483647 : Int) < (mh : Int) := by omega
  by_cases hbigp : mp > 2147483647
  · have hbi : (2147483647 : Int) < (mp : Int) := by omega
    go_enter Try.func8, Try.ntmps8
    go_wp2
    go_ret
    exact ⟨rfl, Below.refl _ _⟩
  have hbip : ¬ (2147483647 : Int) < (mp : Int) := by omega
  have HBB0 := Lib.hid (below_alloc' (Below.refl w.heap.size w) (.cells #[.slice Ab mb cb, .slice Ah mh ch, .slice Ap mp cp] 22))
  obtain ⟨sh, hsh⟩ : ∃ sh : Bool, sh = ([(Ab, mb, cb), (Ah, mh, ch), (Ap, mp, cp)] : List (Option Addr × Nat × Nat)).all fun x => decide (x.2.1 ≤ 2000) := ⟨_, rfl⟩
  have HSH := Lib.hid (partShort_lit w [(Ab, mb, cb), (Ah, mh, ch), (Ap, mp, cp)] 3 #[.slice Ab mb cb, .slice Ah mh ch, .slice Ap mp cp] rfl rfl 22 (by decide) sh hsh.symm)
  cases sh with
  | false =>
    clear hsh
    obtain ⟨w0, hw0⟩ : ∃ w0, w0 = w.alloc (.cells #[.slice Ab mb cb, .slice Ah mh ch, .slice Ap mp cp] 22) := ⟨_, rfl⟩
    have HAW := Lib.hid (partAwake_calls (w.alloc (.cells #[.slice Ab mb cb, .slice Ah mh ch, .slice Ap mp cp] 22)))
    clear hw0
    go_enter Try.func8, Try.ntmps8
    go_wp2_with fail
    refine HSH.out.mono ?_
    rintro e w1 ⟨rfl, rfl⟩
    go_wp2_with fail
    refine HAW.out.mono ?_
    rintro e w2 ⟨rfl, hB2⟩
    have HB2 := Lib.hid (below_then HBB0.out hB2)
    clear hB2
    go_wp2
    go_ret
    exact ⟨rfl, HB2.out⟩
  | true =>
    have hall : mb ≤ 2000 ∧ mh ≤ 2000 ∧ mp ≤ 2000 := by simpa [and_assoc] using hsh.symm
    obtain ⟨hleb, hleh, hlep⟩ := hall
    clear hsh
    go_enter Try.func8, Try.ntmps8
    go_wp2_with fail
    refine HSH.out.mono ?_
    rintro e w1 ⟨rfl, rfl⟩
    have HBB0 : Hid (Below w.heap.size w (w.alloc (.cells #[.slice Ab mb cb, .slice Ah mh ch, .slice Ap mp cp] 22))) := HBB0
    have HP1 := Lib.hid (partOwn_n (w.alloc (.cells #[.slice Ab mb cb, .slice Ah mh ch, .slice Ap mp cp] 22)) Ab mb cb lb (HRb.out.below HBB0.out (Nat.le_refl _)) (by omega))
    go_wp2_with fail
    refine HP1.out.mono ?_
    rintro e w1 ⟨A1x, c1x, rfl, hcc, hoo, hB⟩
    have HR1x : Hid (RB w1 A1x mb lb) := Lib.hid (Reads.of_own hoo)
    have HCC1x := Lib.hid hcc
    have HS1 := Lib.hid hB
    have HBB1 := Lib.hid (below_then HBB0.out hB)
    clear hoo hcc hB
    have HP2 := Lib.hid (partOwn_n w1 Ah mh ch lh (HRh.out.below HBB1.out (Nat.le_refl _)) (by omega))
    go_wp2_with fail
    refine HP2.out.mono ?_
    rintro e w2 ⟨A2x, c2x, rfl, hcc, hoo, hB⟩
    have HR2x : Hid (RB w2 A2x mh lh) := Lib.hid (Reads.of_own hoo)
    have HCC2x := Lib.hid hcc
    have HS2 := Lib.hid hB
    have HBB2 := Lib.hid (below_then HBB1.out hB)
    clear hoo hcc hB
    have HP3 := Lib.hid (partOwn_n w2 Ap mp cp lp (HRp.out.below HBB2.out (Nat.le_refl _)) (by omega))
    go_wp2_with fail
    refine HP3.out.mono ?_
    rintro e w3 ⟨A3x, c3x, rfl, hcc, hoo, hB⟩
    have HR3x : Hid (RB w3 A3x mp lp) := Lib.hid (Reads.of_own hoo)
    have HCC3x := Lib.hid hcc
    have HS3 := Lib.hid hB
    have HBB3 := Lib.hid (below_then HBB2.out hB)
    clear hoo hcc hB
    have HP4 := Lib.hid (Signing_calls en w3 A1x A2x A3x mb c1x mh c2x mp c3x lb lh lp (RB.below (RB.below HR1x.out HS2.out (Nat.le_refl _)) HS3.out (Nat.le_refl _)) (by omega) (RB.below HR2x.out HS3.out (Nat.le_refl _)) (by omega) HR3x.out (by omega))
    go_wp2_with fail
    refine HP4.out.mono ?_
    rintro e w4 ⟨Ax, mx, cx, rfl, hcc, hnn, hoo, hB⟩
    have HNx := Lib.hid hnn
    clear hnn
    have HRx : Hid (RB w4 Ax mx (signL en lh lp)) := Lib.hid (Reads.of_own hoo)
    have HCCx := Lib.hid hcc
    have HS4 := Lib.hid hB
    have HBB4 := Lib.hid (below_then HBB3.out hB)
    clear hoo hcc hB
    have HP5 := Lib.hid (partOwn_n w4 Ab mb cb lb (HRb.out.below HBB4.out (Nat.le_refl _)) (by omega))
    go_wp2_with fail
    refine HP5.out.mono ?_
    rintro e w5 ⟨A1y, c1y, rfl, hcc, hoo, hB⟩
    have HR1y : Hid (RB w5 A1y mb lb) := Lib.hid (Reads.of_own hoo)
    have HCC1y := Lib.hid hcc
    have HS5 := Lib.hid hB
    have HBB5 := Lib.hid (below_then HBB4.out hB)
    clear hoo hcc hB
    have HP6 := Lib.hid (partOwn_n w5 Ah mh ch lh (HRh.out.below HBB5.out (Nat.le_refl _)) (by omega))
    go_wp2_with fail
    refine HP6.out.mono ?_
    rintro e w6 ⟨A2y, c2y, rfl, hcc, hoo, hB⟩
    have HR2y : Hid (RB w6 A2y mh lh) := Lib.hid (Reads.of_own hoo)
    have HCC2y := Lib.hid hcc
    have HS6 := Lib.hid hB
    have HBB6 := Lib.hid (below_then HBB5.out hB)
    clear hoo hcc hB
    have HP7 := Lib.hid (Prefix_calls w6 A1y A2y mb c1y mh c2y lb lh (RB.below HR1y.out HS6.out (Nat.le_refl _)) (by omega) HR2y.out (by omega))
    go_wp2_with fail
    refine HP7.out.mono ?_
    rintro e w7 ⟨Ay, my, cy, rfl, hcc, hnn, hoo, hB⟩
    have HNy := Lib.hid hnn
    clear hnn
    have HRy : Hid (RB w7 Ay my (encRaw alURL lh ++ [46])) := Lib.hid (Reads.of_own hoo)
    have HCCy := Lib.hid hcc
    have HS7 := Lib.hid hB
    have HBB7 := Lib.hid (below_then HBB6.out hB)
    clear hoo hcc hB
    have HP8 := Lib.hid (PartSigning_any en w7 Ah Ap mh ch mp cp lh lp (HRh.out.below HBB7.out (Nat.le_refl _)) HCCh.out (by omega) (HRp.out.below HBB7.out (Nat.le_refl _)) HCCp.out (by omega))
    go_wp2_with fail
    refine HP8.out.mono ?_
    rintro e w8 ⟨Az, mz, cz, rfl, hcc, hnn, hoo, hB⟩
    have HNz := Lib.hid hnn
    clear hnn
    have HRz : Hid (RB w8 Az mz (signL en lh lp)) := Lib.hid (Reads.of_own hoo)
    have HCCz := Lib.hid hcc
    have HS8 := Lib.hid hB
    have HBB8 := Lib.hid (below_then HBB7.out hB)
    clear hoo hcc hB
    have HPS := Lib.hid (PartSame_yes w8 Ax Az (signL en lh lp) mx cx mz cz (RB.below (RB.below (RB.below (RB.below HRx.out HS5.out (Nat.le_refl _)) HS6.out (Nat.le_refl _)) HS7.out (Nat.le_refl _)) HS8.out (Nat.le_refl _)) HRz.out)
    go_wp2_with fail
    refine HPS.out.mono ?_
    rintro e w' ⟨rfl, rfl⟩
    clear HPS
    have HP9 := Lib.hid (PartSigning_false w8 Ah none mh ch 0 0 lh [] (HRh.out.below HBB8.out (Nat.le_refl _)) HCCh.out (by omega) Reads.none_ (by decide) (by decide))
    go_wp2_with fail
    refine HP9.out.mono ?_
    rintro e w9 ⟨Av, mv, cv, rfl, hcc, hnn, hoo, hB⟩
    have HNv := Lib.hid hnn
    clear hnn
    have HRv : Hid (RB w9 Av mv (encRaw alURL lh ++ ([46] ++ []))) := Lib.hid (Reads.of_own hoo)
    have HCCv := Lib.hid hcc
    have HS9 := Lib.hid hB
    have HBB9 := Lib.hid (below_then HBB8.out hB)
    clear hoo hcc hB
    have HPS := Lib.hid (PartSame_yes w9 Ay Av (encRaw alURL lh ++ [46]) my cy mv cv (RB.below (RB.below HRy.out HS8.out (Nat.le_refl _)) HS9.out (Nat.le_refl _)) HRv.out)
    go_wp2_with fail
    refine HPS.out.mono ?_
    rintro e w' ⟨rfl, rfl⟩
    clear HPS
    have HP10 := Lib.hid (partAwake_calls w9)
    go_wp2_with fail
    refine HP10.out.mono ?_
    rintro e w10 ⟨rfl, hB⟩
    have HBB10 := Lib.hid (below_then HBB9.out hB)
    clear hB
    go_wp2
    go_ret
    exact ⟨rfl, HBB10.out⟩
end Go.Proofs.Ytimicibalhaljaa.B64
