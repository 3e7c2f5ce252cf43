/- The walk of the law FnPartSegments; no condition on the lengths. -/
import Derived.Test.YtimicibalhaljaaDoorPSplit
import Derived.Test.YtimicibalhaljaaDoorSplit
import Derived.Test.YtimicibalhaljaaDoorPartAwake
set_option linter.unusedVariables false
set_option linter.unusedSimpArgs false
namespace Go.Proofs.YtimicibalhaljaaDoor.B64
open Go.RowKit Go.Proofs.YtimicibalhaljaaDoor.K Go.Proofs.YtimicibalhaljaaDoor.Own
theorem PartSame_eq (w : World) (A B : Option Addr) (l : List UInt8) (n c k d : Nat) (h : RB w A n l) (h' : RB w B k l) :
    Calls Tryd.prog 9 #[.slice A n c, .slice B k d] w fun e w' => e = .returned (.bool true) ∧ w = w' := by
  have := PartSame_calls w A B l l n c k d h h'
  rwa [beq_self_eq_true] at this
set_option maxRecDepth 100000 in
set_option maxHeartbeats 4000000 in
theorem FnPartSegments_calls (w : World) (A1 A2 A3 : Option Addr) (m1 m2 m3 c1 c2 c3 : Nat) (l1 l2 l3 : List UInt8) (h1 : RB w A1 m1 l1) (h2 : RB w A2 m2 l2) (h3 : RB w A3 m3 l3) :
    Calls Tryd.prog 3 #[.slice A1 m1 c1, .slice A2 m2 c2, .slice A3 m3 c3] w fun e w' => e = .returned (.bool true) ∧ Below w.heap.size w w' := by
  have HA1 := Lib.hid h1
  have HA2 := Lib.hid h2
  have HA3 := Lib.hid h3
  clear h1 h2 h3
  by_cases z1 : 2147483647 < m1
  · have z1i : (2147483647 : Int) < (m1 : Int) := by omega
    clear z1
    go_enter Tryd.func3, Tryd.ntmps3
    go_wp2
    go_ret
    exact ⟨rfl, Below.refl _ _⟩
  have z1i : ¬ (2147483647 : Int) < (m1 : Int) := by omega
  clear z1
  by_cases z2 : 2147483647 < m2
  · have z2i : (2147483647 : Int) < (m2 : Int) := by omega
    clear z2
    go_enter Tryd.func3, Tryd.ntmps3
    go_wp2
    go_ret
    exact ⟨rfl, Below.refl _ _⟩
  have z2i : ¬ (2147483647 : Int) < (m2 : Int) := by omega
  clear z2
  by_cases z3 : 2147483647 < m3
  · have z3i : (2147483647 : Int) < (m3 : Int) := by omega
    clear z3
    go_enter Tryd.func3, Tryd.ntmps3
    go_wp2
    go_ret
    exact ⟨rfl, Below.refl _ _⟩
  have z3i : ¬ (2147483647 : Int) < (m3 : Int) := by omega
  clear z3
  have HB0 := Lib.hid (below_alloc' (Below.refl w.heap.size w) (.cells #[.slice A1 m1 c1, .slice A2 m2 c2, .slice A3 m3 c3] 22))
  by_cases hs : m1 ≤ 2000 ∧ m2 ≤ 2000 ∧ m3 ≤ 2000
  rotate_left
  · have HS := Lib.hid (partShort_lit w [(A1, m1, c1), (A2, m2, c2), (A3, m3, c3)] 3 #[.slice A1 m1 c1, .slice A2 m2 c2, .slice A3 m3 c3] rfl rfl 22 (by decide) false (by simp; omega))
    have HAW := Lib.hid (partAwake_calls (w.alloc (.cells #[.slice A1 m1 c1, .slice A2 m2 c2, .slice A3 m3 c3] 22)))
    clear hs
    go_enter Tryd.func3, Tryd.ntmps3
    go_wp2_with fail
    refine HS.out.mono ?_
    rintro e w1 ⟨rfl, rfl⟩
    go_wp2_with fail
    refine HAW.out.mono ?_
    rintro e wz ⟨rfl, hBz⟩
    have HBz := Lib.hid (below_then HB0.out hBz)
    clear hBz
    go_wp2
    go_ret
    exact ⟨rfl, HBz.out⟩
  have HS := Lib.hid (partShort_lit w [(A1, m1, c1), (A2, m2, c2), (A3, m3, c3)] 3 #[.slice A1 m1 c1, .slice A2 m2 c2, .slice A3 m3 c3] rfl rfl 22 (by decide) true (by simp [hs.1, hs.2.1, hs.2.2]))
  obtain ⟨s1, s2, s3⟩ := hs
  obtain ⟨w1, hw1⟩ : ∃ w1, w1 = w.alloc (.cells #[.slice A1 m1 c1, .slice A2 m2 c2, .slice A3 m3 c3] 22) := ⟨_, rfl⟩
  have HW1 := Lib.hid hw1
  rw [← hw1] at HB0
  clear hw1
  go_enter Tryd.func3, Tryd.ntmps3
  go_wp2_with fail
  refine HS.out.mono ?_
  rintro e w1x ⟨rfl, rfl⟩
  rw [← HW1.out]
  clear HS HW1
  have HR11 := Lib.hid (HA1.out.below HB0.out (Nat.le_refl _))
  have HE0 := Lib.hid (Below.refl w1.heap.size w1)
  by_cases d1 : dots l1 = 0
  rotate_left
  · obtain ⟨K, hK⟩ : ∃ K, K = dots l1 + 1 := ⟨_, rfl⟩
    have HSP := Lib.hid (PartSplit_calls w1 A1 m1 c1 K l1 (HA1.out.below HB0.out (Nat.le_refl _)) (by omega) hK)
    have hKi : (1 : Int) < (K : Int) := by omega
    clear hK d1
    go_wp2_with fail
    refine HSP.out.mono ?_
    rintro e wx ⟨Ax, cx, rfl, hBx⟩
    have HBx := Lib.hid (below_then HB0.out hBx)
    have HAW := Lib.hid (partAwake_calls wx)
    clear hBx
    go_wp2_with fail
    refine HAW.out.mono ?_
    rintro e wz ⟨rfl, hBz⟩
    have HBz := Lib.hid (below_then HBx.out hBz)
    clear hBz
    go_wp2
    go_ret
    exact ⟨rfl, HBz.out⟩
  have HSP1 := Lib.hid (PartSplit_calls w1 A1 m1 c1 1 l1 (HA1.out.below HB0.out (Nat.le_refl _)) (by omega) (by rw [d1]))
  have HN1 := Lib.hid (dots_zero d1)
  clear d1
  go_wp2_with fail
  refine HSP1.out.mono ?_
  rintro e ws1 ⟨Ax1, cx1, rfl, hBx⟩
  have HBS1 := Lib.hid (below_then HB0.out hBx)
  clear hBx HSP1
  by_cases d2 : dots l2 = 0
  rotate_left
  · obtain ⟨K, hK⟩ : ∃ K, K = dots l2 + 1 := ⟨_, rfl⟩
    have HSP := Lib.hid (PartSplit_calls ws1 A2 m2 c2 K l2 (HA2.out.below HBS1.out (Nat.le_refl _)) (by omega) hK)
    have hKi : (1 : Int) < (K : Int) := by omega
    clear hK d2
    go_wp2_with fail
    refine HSP.out.mono ?_
    rintro e wx ⟨Ax, cx, rfl, hBx⟩
    have HBx := Lib.hid (below_then HBS1.out hBx)
    have HAW := Lib.hid (partAwake_calls wx)
    clear hBx
    go_wp2_with fail
    refine HAW.out.mono ?_
    rintro e wz ⟨rfl, hBz⟩
    have HBz := Lib.hid (below_then HBx.out hBz)
    clear hBz
    go_wp2
    go_ret
    exact ⟨rfl, HBz.out⟩
  have HSP2 := Lib.hid (PartSplit_calls ws1 A2 m2 c2 1 l2 (HA2.out.below HBS1.out (Nat.le_refl _)) (by omega) (by rw [d2]))
  have HN2 := Lib.hid (dots_zero d2)
  clear d2
  go_wp2_with fail
  refine HSP2.out.mono ?_
  rintro e ws2 ⟨Ax2, cx2, rfl, hBx⟩
  have HBS2 := Lib.hid (below_then HBS1.out hBx)
  clear hBx HSP2
  by_cases d3 : dots l3 = 0
  rotate_left
  · obtain ⟨K, hK⟩ : ∃ K, K = dots l3 + 1 := ⟨_, rfl⟩
    have HSP := Lib.hid (PartSplit_calls ws2 A3 m3 c3 K l3 (HA3.out.below HBS2.out (Nat.le_refl _)) (by omega) hK)
    have hKi : (1 : Int) < (K : Int) := by omega
    clear hK d3
    go_wp2_with fail
    refine HSP.out.mono ?_
    rintro e wx ⟨Ax, cx, rfl, hBx⟩
    have HBx := Lib.hid (below_then HBS2.out hBx)
    have HAW := Lib.hid (partAwake_calls wx)
    clear hBx
    go_wp2_with fail
    refine HAW.out.mono ?_
    rintro e wz ⟨rfl, hBz⟩
    have HBz := Lib.hid (below_then HBx.out hBz)
    clear hBz
    go_wp2
    go_ret
    exact ⟨rfl, HBz.out⟩
  have HSP3 := Lib.hid (PartSplit_calls ws2 A3 m3 c3 1 l3 (HA3.out.below HBS2.out (Nat.le_refl _)) (by omega) (by rw [d3]))
  have HN3 := Lib.hid (dots_zero d3)
  clear d3
  go_wp2_with fail
  refine HSP3.out.mono ?_
  rintro e ws3 ⟨Ax3, cx3, rfl, hBx⟩
  have HBS3 := Lib.hid (below_then HBS2.out hBx)
  clear hBx HSP3
  have HP := Lib.hid (partOwn_n ws3 A1 m1 c1 l1 (HA1.out.below HBS3.out (Nat.le_refl _)) (by omega))
  obtain ⟨i0, hi, hz0, hz1, hz2⟩ := info_parts info_u8
  have HI := Lib.hid (And.intro hi (And.intro hz0 (And.intro hz1 hz2)))
  clear hi hz0 hz1 hz2
  go_wp2_with fail
  refine HP.out.mono ?_
  rintro e wa ⟨Ao, co, rfl, hco, ho, hBa⟩
  have HO := Lib.hid (own_base ho (Nat.le_trans HBS3.out.size (Nat.le_refl _)) : wa.ownsRow w.heap.size 5 1 (.slice Ao m1 co) m1 (bys l1))
  have HBA := Lib.hid (below_then HBS3.out hBa)
  clear ho hBa hco HP
  go_wp2_with (first
    | (at_builtin; refine wpList_append_any _ rfl (.tmp 51) (.tmp 52) 22 rfl w.heap.size 5 i0 (.int .u8 0) 1 1 Tryd.underlying22 HI.out.1 HI.out.2.1 HI.out.2.2.1 HI.out.2.2.2 rfl (by decide) _ m1 _ rfl (World.ownsRow.alloc HO.out _) (some ⟨wa.heap.size, 0, none⟩) 1 1 (bys [46]) rfl (rb_lit wa [46] 1 _ rfl rfl _) (bys_one _) (by unfold maxLen; omega) (by omega) (by have := HBA.out.size; simp; omega) ?_; intro vp wp hown hg hat; have HOp := Lib.hid hown; have HBp := Lib.hid ((below_alloc' HBA.out _).grown hg (by have := HBA.out.size; simp; omega) (by intro k hk; exact own_block_ge HO.out k hk)); clear hown hg hat)
    | (at_builtin; refine wpList_append_any _ rfl (.tmp 53) (.tmp 54) 22 rfl w.heap.size 5 i0 (.int .u8 0) 1 1 Tryd.underlying22 HI.out.1 HI.out.2.1 HI.out.2.2.1 HI.out.2.2.2 rfl (by decide) _ (m1 + 1) _ rfl HOp.out A2 m2 c2 _ rfl (HA2.out.below HBp.out (Nat.le_refl _)) (bys_one _) (by unfold maxLen; omega) (by omega) HBp.out.size ?_; intro vq wq hown hg hat; have HOq := Lib.hid hown; have HBq := Lib.hid (HBp.out.grown hg HBp.out.size (by intro k hk; exact own_block_ge HOp.out k hk)); clear hown hg hat)
    | (at_builtin; refine wpList_append_any _ rfl (.tmp 56) (.tmp 57) 22 rfl w.heap.size 5 i0 (.int .u8 0) 1 1 Tryd.underlying22 HI.out.1 HI.out.2.1 HI.out.2.2.1 HI.out.2.2.2 rfl (by decide) _ (m1 + 1 + m2) _ rfl (World.ownsRow.alloc HOq.out _) (some ⟨wq.heap.size, 0, none⟩) 1 1 (bys [46]) rfl (rb_lit wq [46] 1 _ rfl rfl _) (bys_one _) (by unfold maxLen; omega) (by omega) (by have := HBq.out.size; simp; omega) ?_; intro vr wr hown hg hat; have HOr := Lib.hid hown; have HBr := Lib.hid ((below_alloc' HBq.out _).grown hg (by have := HBq.out.size; simp; omega) (by intro k hk; exact own_block_ge HOq.out k hk)); clear hown hg hat)
    | (at_builtin; refine wpList_append_any _ rfl (.tmp 58) (.tmp 59) 22 rfl w.heap.size 5 i0 (.int .u8 0) 1 1 Tryd.underlying22 HI.out.1 HI.out.2.1 HI.out.2.2.1 HI.out.2.2.2 rfl (by decide) _ (m1 + 1 + m2 + 1) _ rfl HOr.out A3 m3 c3 _ rfl (HA3.out.below HBr.out (Nat.le_refl _)) (bys_one _) (by unfold maxLen; omega) (by omega) HBr.out.size ?_; intro vs ws hown hg hat; have HOs := Lib.hid hown; have HBs := Lib.hid (HBr.out.grown hg HBr.out.size (by intro k hk; exact own_block_ge HOr.out k hk)); clear hown hg hat))
  obtain ⟨As, cs, hvs, hcs, hrs⟩ := own_form HOs.out
  have hrt : RB ws As (m1 + 1 + m2 + 1 + m3) (l1 ++ 46 :: (l2 ++ 46 :: l3)) := by
    show Reads _ _ _ _ _
    rw [show l1 ++ 46 :: (l2 ++ 46 :: l3) = ((l1 ++ [46]) ++ l2) ++ [46] ++ l3 by simp]
    simp only [bys_append]
    exact hrs
  obtain ⟨M, hM⟩ : ∃ M, M = m1 + 1 + m2 + 1 + m3 := ⟨_, rfl⟩
  have hMb : M ≤ 100000 := by omega
  rw [← hM] at hrt hvs
  subst hvs
  have HP2 := Lib.hid (partOwn_n ws As M cs _ hrt (by omega))
  have HL := Lib.hid (And.intro HA1.out.len.symm (And.intro HA2.out.len.symm HA3.out.len.symm))
  clear hrs hrt hcs hM HO HOp HOq HOr HOs
  go_wp2_with fail
  refine HP2.out.mono ?_
  rintro e wt ⟨At, ct, rfl, hct, hot, hBt⟩
  have HBT := Lib.hid (below_then HBs.out hBt)
  have HSP := Lib.hid (Split_calls wt At M ct m1 m2 m3 l1 l2 l3 (Reads.of_own hot) hMb HN1.out HN2.out HN3.out HL.out.1 HL.out.2.1 HL.out.2.2)
  clear hot hBt hct HP2
  go_wp2_with fail
  refine HSP.out.mono ?_
  rintro e wu ⟨Bx, ex, By, ey, Bz, ez, rfl, hrx, hry, hrz, hkx, hky, hkz, hBu⟩
  have HBU := Lib.hid (below_then HBT.out hBu)
  have HS1 := Lib.hid (PartSame_eq wu Bx A1 l1 m1 ex m1 c1 hrx (HA1.out.below HBU.out (Nat.le_refl _)))
  have HS2 := Lib.hid (PartSame_eq wu By A2 l2 m2 ey m2 c2 hry (HA2.out.below HBU.out (Nat.le_refl _)))
  have HS3 := Lib.hid (PartSame_eq wu Bz A3 l3 m3 ez m3 c3 hrz (HA3.out.below HBU.out (Nat.le_refl _)))
  have HAW := Lib.hid (partAwake_calls wu)
  clear hrx hry hrz hkx hky hkz hBu HSP
  go_wp2_with fail
  refine HS1.out.mono ?_
  rintro e wy ⟨rfl, rfl⟩
  go_wp2_with fail
  refine HS2.out.mono ?_
  rintro e wy ⟨rfl, rfl⟩
  go_wp2_with fail
  refine HS3.out.mono ?_
  rintro e wy ⟨rfl, rfl⟩
  go_wp2_with fail
  refine HAW.out.mono ?_
  rintro e wz ⟨rfl, hBz⟩
  have HBz := Lib.hid (below_then HBU.out hBz)
  clear hBz
  go_wp2
  go_ret
  exact ⟨rfl, HBz.out⟩
end Go.Proofs.YtimicibalhaljaaDoor.B64
