/- The walk of the law FnPartOther; no condition on the lengths. -/
import Derived.Test.YtimicibalhaljaaOtherFns
import Derived.Test.YtimicibalhaljaaPOther
import Derived.Deep.RegionHeld3
set_option linter.unusedVariables false
set_option linter.unusedSimpArgs false
namespace Go.Proofs.Ytimicibalhaljaa.B64
open Go.RowKit Go.Proofs.Ytimicibalhaljaa.K Go.Proofs.Ytimicibalhaljaa.Own
theorem three_cells {w : World} {g : Nat} {T : TypeId} {x y z : Value} (h : Blk w g T #[x, y, z]) : w.cell? ⟨g, 0, none⟩ = some x ∧ w.cell? ⟨g, 1, none⟩ = some y ∧ w.cell? ⟨g, 2, none⟩ = some z :=
  ⟨by rw [h.cell]; rfl, by rw [h.cell]; rfl, by rw [h.cell]; rfl⟩
theorem three_reads {w : World} {g : Nat} {T : TypeId} {A0 A1 A2 : Option Addr} {n0 n1 n2 c0 c1 c2 : Nat} (h : Blk w g T #[.slice A0 n0 c0, .slice A1 n1 c1, .slice A2 n2 c2]) : Reads w 1 (some ⟨g, 0, none⟩) 3 ([(A0, n0, c0), (A1, n1, c1), (A2, n2, c2)].map slv) := h.reads 1 3 0 (by simp)
theorem short3 (w : World) (g : Nat) (T : TypeId) (A0 A1 A2 : Option Addr) (n0 n1 n2 c0 c1 c2 : Nat) (h : Blk w g T #[.slice A0 n0 c0, .slice A1 n1 c1, .slice A2 n2 c2]) (r : Bool) (hr : r = decide (n0 ≤ 2000 ∧ n1 ≤ 2000 ∧ n2 ≤ 2000)) :
    Calls Try.prog 12 #[.slice (some ⟨g, 0, none⟩) 3 3] w fun e w' => e = .returned (.bool r) ∧ w = w' := by
  have := partShort_calls w (some ⟨g, 0, none⟩) _ 3 3 (three_reads h) (by decide)
  have e : ([(A0, n0, c0), (A1, n1, c1), (A2, n2, c2)].all fun x => decide (x.2.1 ≤ 2000)) = r := by rw [hr]; simp
  rwa [e] at this
theorem same_calls (w : World) (A B : Option Addr) (l m : List UInt8) (n c k d : Nat) (h : RB w A n l) (h' : RB w B k m) (s : Bool) (hs : (l == m) = s) :
    Calls Try.prog 17 #[.slice A n c, .slice B k d] w fun e w' => e = .returned (.bool s) ∧ w = w' := by
  have := PartSame_calls w A B l m n c k d h h'
  rwa [hs] at this
set_option maxRecDepth 100000 in
set_option maxHeartbeats 4000000 in
theorem FnPartOther_calls (w : World) (A0 A1 A2 B0 B1 B2 : Option Addr) (n0 n1 n2 c0 c1 c2 m0 m1 m2 d0 d1 d2 : Nat) (a0 a1 a2 b0 b1 b2 : List UInt8)
    (ha0 : RB w A0 n0 a0) (ha1 : RB w A1 n1 a1) (ha2 : RB w A2 n2 a2) (hb0 : RB w B0 m0 b0) (hb1 : RB w B1 m1 b1) (hb2 : RB w B2 m2 b2) :
    Calls Try.prog 7 #[.agg #[.slice A0 n0 c0, .slice A1 n1 c1, .slice A2 n2 c2], .agg #[.slice B0 m0 d0, .slice B1 m1 d1, .slice B2 m2 d2]] w fun e w' => e = .returned (.bool true) ∧ Below w.heap.size w w' := by
  have HA0 := Lib.hid ha0
  have HA1 := Lib.hid ha1
  have HA2 := Lib.hid ha2
  have HE0 := Lib.hid hb0
  have HE1 := Lib.hid hb1
  have HE2 := Lib.hid hb2
  clear ha0 ha1 ha2 hb0 hb1 hb2
  have HBA := Lib.hid (below_alloc' (below_alloc' (Below.refl w.heap.size w) (.cells #[.slice A0 n0 c0, .slice A1 n1 c1, .slice A2 n2 c2] 36)) (.cells #[.slice B0 m0 d0, .slice B1 m1 d1, .slice B2 m2 d2] 36))
  have HK1 := Lib.hid ((Blk.new w 36 #[.slice A0 n0 c0, .slice A1 n1 c1, .slice A2 n2 c2]).alloc (.cells #[.slice B0 m0 d0, .slice B1 m1 d1, .slice B2 m2 d2] 36))
  have HK2 : Hid (Blk ((w.alloc (.cells #[.slice A0 n0 c0, .slice A1 n1 c1, .slice A2 n2 c2] 36)).alloc (.cells #[.slice B0 m0 d0, .slice B1 m1 d1, .slice B2 m2 d2] 36)) (w.heap.size + 1) 36 #[.slice B0 m0 d0, .slice B1 m1 d1, .slice B2 m2 d2]) := Lib.hid (by
    have := Blk.new (w.alloc (.cells #[.slice A0 n0 c0, .slice A1 n1 c1, .slice A2 n2 c2] 36)) 36 #[.slice B0 m0 d0, .slice B1 m1 d1, .slice B2 m2 d2]
    rwa [show (w.alloc (.cells #[.slice A0 n0 c0, .slice A1 n1 c1, .slice A2 n2 c2] 36)).heap.size = w.heap.size + 1 from by simp] at this)
  obtain ⟨wA, hwA⟩ : ∃ wA, wA = (w.alloc (.cells #[.slice A0 n0 c0, .slice A1 n1 c1, .slice A2 n2 c2] 36)).alloc (.cells #[.slice B0 m0 d0, .slice B1 m1 d1, .slice B2 m2 d2] 36) := ⟨_, rfl⟩
  rw [← hwA] at HBA HK1 HK2
  obtain ⟨ra, hra⟩ : ∃ r, r = decide (n0 ≤ 2147483647 ∧ n1 ≤ 2147483647 ∧ n2 ≤ 2147483647) := ⟨_, rfl⟩
  have HZ1 := Lib.hid (zzFits16_calls wA A0 A1 A2 n0 n1 n2 c0 c1 c2 ra hra)
  clear hra
  go_enter Try.func7, Try.ntmps7
  go_wp2_with fail
  rw [← hwA]
  clear hwA
  refine HZ1.out.mono ?_
  rintro e w1 ⟨rfl, hB1⟩
  have HB1 := Lib.hid (below_then HBA.out hB1)
  have HK11 := Lib.hid (HK1.out.below hB1 HK1.out.lt)
  have HK21 := Lib.hid (HK2.out.below hB1 HK2.out.lt)
  clear hB1 HZ1 HBA HK1 HK2
  cases ra with
  | false =>
    go_wp2
    go_ret
    exact ⟨rfl, HB1.out⟩
  | true =>
  obtain ⟨rb, hrb⟩ : ∃ r, r = decide (m0 ≤ 2147483647 ∧ m1 ≤ 2147483647 ∧ m2 ≤ 2147483647) := ⟨_, rfl⟩
  have HZ2 := Lib.hid (zzFits16_calls w1 B0 B1 B2 m0 m1 m2 d0 d1 d2 rb hrb)
  clear hrb
  obtain ⟨hy0, hy1, hy2⟩ := three_cells HK21.out
  go_wp2_with fail
  refine HZ2.out.mono ?_
  rintro e w2 ⟨rfl, hB2⟩
  have HB2 := Lib.hid (below_then HB1.out hB2)
  have HK12 := Lib.hid (HK11.out.below hB2 HK11.out.lt)
  have HK22 := Lib.hid (HK21.out.below hB2 HK21.out.lt)
  have HAW := Lib.hid (partAwake_calls w2)
  clear hB2 HZ2 HB1 HK11 HK21 hy0 hy1 hy2
  cases rb with
  | false =>
    go_wp2
    go_ret
    exact ⟨rfl, HB2.out⟩
  | true =>
  obtain ⟨sa, hsa⟩ : ∃ r, r = decide (n0 ≤ 2000 ∧ n1 ≤ 2000 ∧ n2 ≤ 2000) := ⟨_, rfl⟩
  obtain ⟨sb, hsb⟩ : ∃ r, r = decide (m0 ≤ 2000 ∧ m1 ≤ 2000 ∧ m2 ≤ 2000) := ⟨_, rfl⟩
  have HS1 := Lib.hid (short3 w2 _ _ A0 A1 A2 n0 n1 n2 c0 c1 c2 HK12.out sa hsa)
  have HS2 := Lib.hid (short3 w2 _ _ B0 B1 B2 m0 m1 m2 d0 d1 d2 HK22.out sb hsb)
  have HSA := Lib.hid hsa
  have HSB := Lib.hid hsb
  clear hsa hsb
  go_wp2_with fail
  refine HS1.out.mono ?_
  rintro e w2x ⟨rfl, rfl⟩
  clear HS1
  cases sa with
  | false =>
    go_wp2_with fail
    refine HAW.out.mono ?_
    rintro e w3 ⟨rfl, hB3⟩
    have HB3 := Lib.hid (below_then HB2.out hB3)
    clear hB3
    go_wp2
    go_ret
    exact ⟨rfl, HB3.out⟩
  | true =>
  go_wp2_with fail
  refine HS2.out.mono ?_
  rintro e w2x ⟨rfl, rfl⟩
  clear HS2
  cases sb with
  | false =>
    go_wp2_with fail
    refine HAW.out.mono ?_
    rintro e w3 ⟨rfl, hB3⟩
    have HB3 := Lib.hid (below_then HB2.out hB3)
    clear hB3
    go_wp2
    go_ret
    exact ⟨rfl, HB3.out⟩
  | true =>
  clear HAW
  obtain ⟨sa0, sa1, sa2⟩ := of_decide_eq_true HSA.out.symm
  obtain ⟨sb0, sb1, sb2⟩ := of_decide_eq_true HSB.out.symm
  clear HSA HSB
  go_upto_region 5 with (fail)
  go_cut [5, 6] (fun ux uo wx => ∃ Aj nj cj, ux = .slice Aj nj cj ∧ uo = .bool true ∧ Hid (RB wx Aj nj (joinL true a0 a1 a2)) ∧ Hid (Blk wx (w.heap.size) 36 #[.slice A0 n0 c0, .slice A1 n1 c1, .slice A2 n2 c2]) ∧ Hid (Below w2.heap.size w2 wx))
  case first =>
    have HKD : Hid (Blk w2.drew (w.heap.size) 36 #[.slice A0 n0 c0, .slice A1 n1 c1, .slice A2 n2 c2]) := HK12
    have HBD : Hid (Below w2.heap.size w2 w2.drew) := Lib.hid (Below.refl w2.heap.size w2).drew
    have HP0 := Lib.hid (partOwn_n w2.drew A0 n0 c0 a0 ((HA0.out.below HB2.out (Nat.le_refl _) : RB w2 A0 n0 a0)) (by omega))
    go_region_held3 (fun W => W.cell? ⟨w.heap.size, 0, none⟩ = some (.slice A0 n0 c0) ∧ W.cell? ⟨w.heap.size, 1, none⟩ = some (.slice A1 n1 c1) ∧ W.cell? ⟨w.heap.size, 2, none⟩ = some (.slice A2 n2 c2)) (first | exact three_cells HKP3.out | exact three_cells HKP2.out | exact three_cells HKP1.out | exact three_cells HKP0.out | exact three_cells HKD.out) (first
      | (refine HP0.out.mono ?_; rintro e wp0 ⟨Ap0, cp0, rfl, hcp0, hop0, hBp0⟩; have HBP0 := Lib.hid (below_then HBD.out hBp0); have HKP0 := Lib.hid (HKD.out.below hBp0 HKD.out.lt); have HRP0 := Lib.hid (Reads.of_own hop0 : RB wp0 Ap0 n0 a0); have HP1 := Lib.hid (partOwn_n wp0 A1 n1 c1 a1 ((HA1.out.below HB2.out (Nat.le_refl _) : RB w2 A1 n1 a1).below HBP0.out (Nat.le_refl _)) (by omega)); clear hop0 hBp0 HP0 hcp0)
      | (refine HP1.out.mono ?_; rintro e wp1 ⟨Ap1, cp1, rfl, hcp1, hop1, hBp1⟩; have HBP1 := Lib.hid (below_then HBP0.out hBp1); have HKP1 := Lib.hid (HKP0.out.below hBp1 HKP0.out.lt); have HRP01 := Lib.hid (HRP0.out.below hBp1 (Nat.le_refl _)); have HRP1 := Lib.hid (Reads.of_own hop1 : RB wp1 Ap1 n1 a1); have HP2 := Lib.hid (partOwn_n wp1 A2 n2 c2 a2 ((HA2.out.below HB2.out (Nat.le_refl _) : RB w2 A2 n2 a2).below HBP1.out (Nat.le_refl _)) (by omega)); clear hop1 hBp1 HP1 hcp1)
      | (refine HP2.out.mono ?_; rintro e wp2 ⟨Ap2, cp2, rfl, hcp2, hop2, hBp2⟩; have HBP2 := Lib.hid (below_then HBP1.out hBp2); have HKP2 := Lib.hid (HKP1.out.below hBp2 HKP1.out.lt); have HJ := Lib.hid (Joined_calls true wp2 none Ap0 Ap1 Ap2 0 0 n0 cp0 n1 cp1 n2 cp2 [] a0 a1 a2 Reads.none_ (by omega) (HRP01.out.below hBp2 (Nat.le_refl _)) sa0 (HRP1.out.below hBp2 (Nat.le_refl _)) sa1 (Reads.of_own hop2) sa2); clear hop2 hBp2 HP2 hcp2)
      | ((with_reducible refine Calls.mono HJ.out ?_); rintro e wp3 ⟨Aj, nj, cj, rfl, hcj, hnj, hoj, hBj⟩; have HBP3 := Lib.hid (below_then HBP2.out hBj); have HKP3 := Lib.hid (HKP2.out.below hBj HKP2.out.lt); have HRJ := Lib.hid (Reads.of_own hoj : RB wp3 Aj nj (joinL true a0 a1 a2)); clear hoj hBj HJ hcj hnj))
    all_goals
      go_wp2_with fail
      go_meet
      case rel => exact ⟨_, _, _, rfl, rfl, HRJ, HKP3, HBP3⟩
  case rest =>
  obtain ⟨Aja, nja, cja, rfl, rfl, HRJa, HKQa, HBQa⟩ := hcut
  have HK2c := Lib.hid (HK22.out.below HBQa.out HK22.out.lt)
  have HB3 := Lib.hid (below_then HB2.out HBQa.out)
  obtain ⟨w3, hw3⟩ : ∃ w3, w3 = wc := ⟨_, rfl⟩
  subst hw3
  clear HBQa HK12 HK22 HB2
  go_upto_region 6 with (fail)
  go_cut [7, 8] (fun ux uo wx => ∃ Aj nj cj, ux = .slice Aj nj cj ∧ uo = .bool true ∧ Hid (RB wx Aj nj (joinL true b0 b1 b2)) ∧ Hid (Blk wx (w.heap.size + 1) 36 #[.slice B0 m0 d0, .slice B1 m1 d1, .slice B2 m2 d2]) ∧ Hid (Below w3.heap.size w3 wx))
  case first =>
    have HKD : Hid (Blk w3.drew (w.heap.size + 1) 36 #[.slice B0 m0 d0, .slice B1 m1 d1, .slice B2 m2 d2]) := HK2c
    have HBD : Hid (Below w3.heap.size w3 w3.drew) := Lib.hid (Below.refl w3.heap.size w3).drew
    have HP0 := Lib.hid (partOwn_n w3.drew B0 m0 d0 b0 ((HE0.out.below HB3.out (Nat.le_refl _) : RB w3 B0 m0 b0)) (by omega))
    go_region_held3 (fun W => W.cell? ⟨w.heap.size + 1, 0, none⟩ = some (.slice B0 m0 d0) ∧ W.cell? ⟨w.heap.size + 1, 1, none⟩ = some (.slice B1 m1 d1) ∧ W.cell? ⟨w.heap.size + 1, 2, none⟩ = some (.slice B2 m2 d2)) (first | exact three_cells HKP3.out | exact three_cells HKP2.out | exact three_cells HKP1.out | exact three_cells HKP0.out | exact three_cells HKD.out) (first
      | (refine HP0.out.mono ?_; rintro e wp0 ⟨Ap0, cp0, rfl, hcp0, hop0, hBp0⟩; have HBP0 := Lib.hid (below_then HBD.out hBp0); have HKP0 := Lib.hid (HKD.out.below hBp0 HKD.out.lt); have HRP0 := Lib.hid (Reads.of_own hop0 : RB wp0 Ap0 m0 b0); have HP1 := Lib.hid (partOwn_n wp0 B1 m1 d1 b1 ((HE1.out.below HB3.out (Nat.le_refl _) : RB w3 B1 m1 b1).below HBP0.out (Nat.le_refl _)) (by omega)); clear hop0 hBp0 HP0 hcp0)
      | (refine HP1.out.mono ?_; rintro e wp1 ⟨Ap1, cp1, rfl, hcp1, hop1, hBp1⟩; have HBP1 := Lib.hid (below_then HBP0.out hBp1); have HKP1 := Lib.hid (HKP0.out.below hBp1 HKP0.out.lt); have HRP01 := Lib.hid (HRP0.out.below hBp1 (Nat.le_refl _)); have HRP1 := Lib.hid (Reads.of_own hop1 : RB wp1 Ap1 m1 b1); have HP2 := Lib.hid (partOwn_n wp1 B2 m2 d2 b2 ((HE2.out.below HB3.out (Nat.le_refl _) : RB w3 B2 m2 b2).below HBP1.out (Nat.le_refl _)) (by omega)); clear hop1 hBp1 HP1 hcp1)
      | (refine HP2.out.mono ?_; rintro e wp2 ⟨Ap2, cp2, rfl, hcp2, hop2, hBp2⟩; have HBP2 := Lib.hid (below_then HBP1.out hBp2); have HKP2 := Lib.hid (HKP1.out.below hBp2 HKP1.out.lt); have HJ := Lib.hid (Joined_calls true wp2 none Ap0 Ap1 Ap2 0 0 m0 cp0 m1 cp1 m2 cp2 [] b0 b1 b2 Reads.none_ (by omega) (HRP01.out.below hBp2 (Nat.le_refl _)) sb0 (HRP1.out.below hBp2 (Nat.le_refl _)) sb1 (Reads.of_own hop2) sb2); clear hop2 hBp2 HP2 hcp2)
      | ((with_reducible refine Calls.mono HJ.out ?_); rintro e wp3 ⟨Aj, nj, cj, rfl, hcj, hnj, hoj, hBj⟩; have HBP3 := Lib.hid (below_then HBP2.out hBj); have HKP3 := Lib.hid (HKP2.out.below hBj HKP2.out.lt); have HRJ := Lib.hid (Reads.of_own hoj : RB wp3 Aj nj (joinL true b0 b1 b2)); clear hoj hBj HJ hcj hnj))
    all_goals
      go_wp2_with fail
      go_meet
      case rel => exact ⟨_, _, _, rfl, rfl, HRJ, HKP3, HBP3⟩
  case rest =>
  obtain ⟨Ajb, njb, cjb, rfl, rfl, HRJb, HKQb, HBQb⟩ := hcut
  have HRJa2 := Lib.hid (HRJa.out.below HBQb.out (Nat.le_refl _))
  have HKa2 := Lib.hid (HKQa.out.below HBQb.out HKQa.out.lt)
  have HB4 := Lib.hid (below_then HB3.out HBQb.out)
  obtain ⟨w4, hw4⟩ : ∃ w4, w4 = wc := ⟨_, rfl⟩
  subst hw4
  obtain ⟨s0, hs0⟩ : ∃ s, (a0 == b0) = s := ⟨_, rfl⟩
  obtain ⟨s1, hs1⟩ : ∃ s, (a1 == b1) = s := ⟨_, rfl⟩
  obtain ⟨s2, hs2⟩ : ∃ s, (a2 == b2) = s := ⟨_, rfl⟩
  obtain ⟨sv, hsv⟩ : ∃ s, s = (s0 && s1 && s2) := ⟨_, rfl⟩
  have HS0 := Lib.hid (same_calls w4 A0 B0 a0 b0 n0 c0 m0 d0 (HA0.out.below HB4.out (Nat.le_refl _)) (HE0.out.below HB4.out (Nat.le_refl _)) s0 hs0)
  have HS1 := Lib.hid (same_calls w4 A1 B1 a1 b1 n1 c1 m1 d1 (HA1.out.below HB4.out (Nat.le_refl _)) (HE1.out.below HB4.out (Nat.le_refl _)) s1 hs1)
  have HS2 := Lib.hid (same_calls w4 A2 B2 a2 b2 n2 c2 m2 d2 (HA2.out.below HB4.out (Nat.le_refl _)) (HE2.out.below HB4.out (Nat.le_refl _)) s2 hs2)
  have HSX := Lib.hid (same_calls w4 Aja Ajb _ _ nja cja njb cjb HRJa2.out HRJb.out sv ((joinL_beq a0 a1 a2 b0 b1 b2 s0 s1 s2 hs0 hs1 hs2).trans hsv.symm))
  have HAW := Lib.hid (partAwake_calls w4)
  have HKb2 := HKQb
  clear hs0 hs1 hs2 HKQa HKQb HBQb HRJa HRJa2 HRJb HB3 HK2c
  go_upto_region 7 with (fail)
  go_cut [9] (fun u wx => u = .bool sv ∧ wx = w4)
  case first =>
    obtain ⟨hx0, hx1, hx2⟩ := three_cells HKa2.out
    obtain ⟨hy0, hy1, hy2⟩ := three_cells HKb2.out
    cases s0 with
    | false =>
      go_wp2_with fail
      refine HS0.out.mono ?_
      rintro e wy ⟨rfl, rfl⟩
      go_wp2_with fail
      go_meet
      case rel => exact ⟨by rw [hsv]; rfl, rfl⟩
    | true =>
      cases s1 with
      | false =>
        go_wp2_with fail
        refine HS0.out.mono ?_
        rintro e wy ⟨rfl, rfl⟩
        go_wp2_with fail
        refine HS1.out.mono ?_
        rintro e wy ⟨rfl, rfl⟩
        go_wp2_with fail
        go_meet
        case rel => exact ⟨by rw [hsv]; rfl, rfl⟩
      | true =>
        go_wp2_with fail
        refine HS0.out.mono ?_
        rintro e wy ⟨rfl, rfl⟩
        go_wp2_with fail
        refine HS1.out.mono ?_
        rintro e wy ⟨rfl, rfl⟩
        go_wp2_with fail
        refine HS2.out.mono ?_
        rintro e wy ⟨rfl, rfl⟩
        go_wp2_with fail
        go_meet
        case rel => exact ⟨by rw [hsv]; rfl, rfl⟩
  case rest =>
  obtain ⟨rfl, hw⟩ := hcut
  subst hw
  clear hsv HS0 HS1 HS2 HKa2 HKb2
  cases sv with
  | false =>
    go_wp2_with fail
    refine HSX.out.mono ?_
    rintro e wy ⟨rfl, rfl⟩
    go_wp2_with fail
    refine HAW.out.mono ?_
    rintro e wz ⟨rfl, hBz⟩
    have HBz := Lib.hid (below_then HB4.out hBz)
    clear hBz
    go_wp2
    go_ret
    exact ⟨rfl, HBz.out⟩
  | true =>
    go_wp2_with fail
    refine HSX.out.mono ?_
    rintro e wy ⟨rfl, rfl⟩
    go_wp2_with fail
    refine HAW.out.mono ?_
    rintro e wz ⟨rfl, hBz⟩
    have HBz := Lib.hid (below_then HB4.out hBz)
    clear hBz
    go_wp2
    go_ret
    exact ⟨rfl, HBz.out⟩
end Go.Proofs.Ytimicibalhaljaa.B64
