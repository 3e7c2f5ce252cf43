/- The walks of zzCut, SplitCompact and impl.Split of three texts between periods; no condition but the size. -/
import Derived.Test.YteecamdcfkielaaDoorB64New
import Derived.BigQuiet
set_option linter.unusedVariables false
set_option linter.unusedSimpArgs false
namespace Go.Proofs.YteecamdcfkielaaDoor.B64
open Go.RowKit Go.Proofs.YteecamdcfkielaaDoor.K Go.Proofs.YteecamdcfkielaaDoor.Own
theorem bt_left (x r : List UInt8) (j : Nat) (h : j < x.length) : bt (x ++ r) j = bt x j := by
  unfold bt; rw [List.getD_eq_getElem?_getD, List.getD_eq_getElem?_getD, List.getElem?_append_left h]
theorem bt_mid (x r : List UInt8) (c : UInt8) : bt (x ++ c :: r) x.length = c := by
  unfold bt; rw [List.getD_eq_getElem?_getD, List.getElem?_append_right (Nat.le_refl _)]; simp
theorem bt_mem (x : List UInt8) (j : Nat) (h : j < x.length) : bt x j ∈ x := by rw [bt_get _ _ h]; exact List.getElem_mem h
def CutYes (w : World) (x r : List UInt8) (k m : Nat) (e : Ending) (w' : World) : Prop :=
  ∃ A1 c1 A2 c2, e = .returned (.tuple #[.slice A1 k c1, .slice A2 m c2, .bool true]) ∧ RB w' A1 k x ∧ RB w' A2 m r ∧ k ≤ c1 ∧ m ≤ c2 ∧ Below w.heap.size w w'
set_option maxRecDepth 100000 in
set_option maxHeartbeats 2000000 in
theorem zzCut_yes (w : World) (A : Option Addr) (n c k m : Nat) (x r : List UInt8) (h : RB w A n (x ++ 46 :: r)) (hc : n ≤ c) (hn : n ≤ 100000) (hx : ∀ b ∈ x, b ≠ 46) (hk : x.length = k) (hm : r.length = m) :
    Calls Tryd.prog 24 #[.slice A n c] w (CutYes w x r k m) := by
  have hlen : n = k + 1 + m := by have := h.len; simp at this; omega
  subst hlen
  obtain ⟨i0, hi, hz0, hz1, hz2⟩ := info_parts info_u8
  obtain ⟨A1, hc1, hr1⟩ := cut_h (P := Tryd.prog) Tryd.underlying23 hi hz1 .i64 h hc (k : Int) k rfl (by omega)
  obtain ⟨A2, hc2, hr2⟩ := cut_l (P := Tryd.prog) Tryd.underlying23 hi hz1 .i64 h hc ((k : Int) + 1) (k + 1) (by omega) (by omega)
  have hr1' : RB w A1 k x := by
    show Reads _ _ _ _ _
    rw [Nat.mul_one] at hr1
    have e : (bys (x ++ 46 :: r)).take k = bys x := by rw [bys_append, List.take_append_of_le_length (by rw [bys_length]; omega), List.take_of_length_le (by rw [bys_length]; omega)]
    rw [← e]; exact hr1
  rw [show k + 1 + m - (k + 1) = m by omega] at hc2 hr2
  have hr2' : RB w A2 m r := by
    show Reads _ _ _ _ _
    rw [Nat.mul_one] at hr2
    have e : (bys (x ++ 46 :: r)).drop (k + 1) = bys r := by
      rw [show x ++ 46 :: r = (x ++ [46]) ++ r by simp, bys_append, List.drop_append_of_le_length (by rw [bys_length]; simp; omega), List.drop_of_length_le (by rw [bys_length]; simp; omega), List.nil_append]
    rw [← e]; exact hr2
  have HR := Lib.hid h
  have HK := Lib.hid hk
  have HX := Lib.hid hx
  have H1 := Lib.hid hr1'
  have H2 := Lib.hid hr2'
  clear h hr1 hr2 hr1' hr2' hk hm hx hi hz0 hz1 hz2
  go_enter Tryd.func24, Tryd.ntmps24
  go_wp2
  go_loopg [9] (k + 1) (fun q u9 wr => ∃ j : Nat, q + j = k + 1 ∧ j ≤ k ∧ u9 = .int .i64 j ∧ wr = w)
  case atStart => exact ⟨0, rfl, by omega, rfl, rfl⟩
  case round =>
    obtain ⟨j, hqj, hjk, rfl, hw⟩ := hrel
    subst hw
    have hlt : (j : Int) < (k : Int) + 1 + (m : Int) := by omega
    obtain ⟨ad, rfl, hcl⟩ := HR.out.bt (show j < k + 1 + m by omega)
    by_cases hj : j < k
    · have hb : bt (x ++ 46 :: r) j ≠ 46 := by
        rw [bt_left _ _ _ (by rw [HK.out]; exact hj)]
        exact HX.out _ (bt_mem _ _ (by rw [HK.out]; exact hj))
      obtain ⟨p, hp⟩ : ∃ p, p = (bt (x ++ 46 :: r) j).toNat := ⟨_, rfl⟩
      rw [← hp] at hcl
      have b46 : ((p : Int) == 46) = false := by
        rw [beq_eq_false_iff_ne]
        intro e
        exact hb (UInt8.toNat_inj.1 (by rw [← hp]; show p = 46; omega))
      clear hp hb
      go_wp2
      go_roundg (k + 1 - (j + 1))
      case measure => omega
      case rel => exact ⟨j + 1, by omega, by omega, by go_num, rfl⟩
    · obtain rfl : j = k := by omega
      have hb : bt (x ++ 46 :: r) j = 46 := by rw [← HK.out]; exact bt_mid x r 46
      have hcl' : wr.cell? (ad.add j) = some (.int .u8 46) := by rw [hcl, hb]; rfl
      clear hcl hb hj
      go_wp2_with (go_quiet (fail))
      exact bodyPost_ret (v := .tuple #[.slice A1 j c, .slice A2 m (c - (j + 1)), .bool true]) (by kernel_rfl) rfl ⟨_, _, _, _, rfl, H1.out, H2.out, by omega, by omega, Go.Proofs.YteecamdcfkielaaDoor.K.below_drewN (Below.refl _ _) _⟩
set_option maxRecDepth 100000 in
set_option maxHeartbeats 2000000 in
theorem zzCut_no (w : World) (A : Option Addr) (n c : Nat) (x : List UInt8) (h : RB w A n x) (hn : n ≤ 100000) (hx : ∀ b ∈ x, b ≠ 46) :
    Calls Tryd.prog 24 #[.slice A n c] w fun e w' => e = .returned (.tuple #[.slice A n c, .slice none 0 0, .bool false]) ∧ w = w' := by
  have HR := Lib.hid h
  have HX := Lib.hid hx
  clear h hx
  go_enter Tryd.func24, Tryd.ntmps24
  go_wp2
  go_loopg [9] n (fun q u9 wr => ∃ j : Nat, q + j = n ∧ u9 = .int .i64 j ∧ wr = w)
  case atStart => exact ⟨0, rfl, rfl, rfl⟩
  case round =>
    obtain ⟨j, hqj, rfl, hw⟩ := hrel
    subst hw
    by_cases hj : j < n
    · obtain ⟨ad, rfl, hcl⟩ := HR.out.bt hj
      have hb : bt x j ≠ 46 := HX.out _ (bt_mem _ _ (by rw [← HR.out.len]; exact hj))
      obtain ⟨p, hp⟩ : ∃ p, p = (bt x j).toNat := ⟨_, rfl⟩
      rw [← hp] at hcl
      have b46 : ((p : Int) == 46) = false := by
        rw [beq_eq_false_iff_ne]
        intro e
        exact hb (UInt8.toNat_inj.1 (by rw [← hp]; show p = 46; omega))
      clear hp hb
      go_wp2
      go_roundg (n - (j + 1))
      case measure => omega
      case rel => exact ⟨j + 1, by omega, by go_num, rfl⟩
    · obtain rfl : j = n := by omega
      go_wp2
      exact bodyPost_ret (v := .tuple #[.slice A j c, .slice none 0 0, .bool false]) (by kernel_rfl) rfl ⟨rfl, rfl⟩
def SplitC (w : World) (x y z : List UInt8) (k1 k2 k3 : Nat) (e : Ending) (w' : World) : Prop :=
  ∃ A1 c1 A2 c2 A3 c3, e = .returned (.tuple #[.slice A1 k1 c1, .slice A2 k2 c2, .slice A3 k3 c3, .nilIface]) ∧ RB w' A1 k1 x ∧ RB w' A2 k2 y ∧ RB w' A3 k3 z ∧ Below w.heap.size w w'
set_option maxRecDepth 100000 in
set_option maxHeartbeats 2000000 in
theorem SplitCompact_calls (w : World) (A : Option Addr) (n c k1 k2 k3 : Nat) (x y z : List UInt8) (h : RB w A n (x ++ 46 :: (y ++ 46 :: z))) (hc : n ≤ c) (hn : n ≤ 100000)
    (hx : ∀ b ∈ x, b ≠ 46) (hy : ∀ b ∈ y, b ≠ 46) (hz : ∀ b ∈ z, b ≠ 46) (h1 : x.length = k1) (h2 : y.length = k2) (h3 : z.length = k3) :
    Calls Tryd.prog 17 #[.slice A n c] w (SplitC w x y z k1 k2 k3) := by
  have hlen : n = k1 + 1 + (k2 + 1 + k3) := by have := h.len; simp at this; omega
  have hr0 : k2 + 1 + k3 ≤ 100000 := by omega
  obtain ⟨K, hK⟩ : ∃ K, K = k2 + 1 + k3 := ⟨_, rfl⟩
  have hKs : (y ++ 46 :: z).length = K := by rw [hK]; simp; omega
  have hK1 : K ≤ 100000 := by omega
  have hk3 : k3 ≤ 100000 := by omega
  have HP1 := Lib.hid (zzCut_yes w A n c k1 K x (y ++ 46 :: z) h hc hn hx h1 hKs)
  have HY := Lib.hid (And.intro hy h2)
  have HZ := Lib.hid (And.intro hz h3)
  clear h hx hy hz h1 h2 h3 hlen hr0 hK hKs
  go_enter Tryd.func17, Tryd.ntmps17
  go_wp2_with fail
  refine HP1.out.mono ?_
  rintro e w1 ⟨A1, c1, A2, c2, rfl, hr1, hr2, hk1, hk2, hB1⟩
  have HR1 := Lib.hid hr1
  have HB1 := Lib.hid hB1
  have HP2 := Lib.hid (zzCut_yes w1 A2 K c2 k2 k3 y z hr2 hk2 hK1 HY.out.1 HY.out.2 HZ.out.2)
  clear hr1 hr2 hB1 HP1
  go_wp2_with fail
  refine HP2.out.mono ?_
  rintro e w2 ⟨A3, c3, A4, c4, rfl, hr3, hr4, hk3', hk4', hB2⟩
  have HR13 := Lib.hid (HR1.out.below hB2 (Nat.le_refl _))
  have HR3 := Lib.hid hr3
  have HR4 := Lib.hid hr4
  have HB2 := Lib.hid (below_then HB1.out hB2)
  have HP3 := Lib.hid (zzCut_no w2 A4 k3 c4 z hr4 hk3 HZ.out.1)
  clear hr3 hr4 hB2 HP2
  go_wp2_with fail
  refine HP3.out.mono ?_
  rintro e w3 ⟨rfl, rfl⟩
  clear HP3
  go_wp2
  exact bodyPost_ret (v := .tuple #[.slice A1 k1 c1, .slice A3 k2 c3, .slice A4 k3 c4, .nilIface]) (by kernel_rfl) rfl ⟨_, _, _, _, _, _, rfl, HR13.out, HR3.out, HR4.out, HB2.out⟩
def SplitOk (w : World) (x y z : List UInt8) (k1 k2 k3 : Nat) (e : Ending) (w' : World) : Prop :=
  ∃ A1 c1 A2 c2 A3 c3, e = .returned (.tuple #[.slice A1 k1 c1, .slice A2 k2 c2, .slice A3 k3 c3, .bool true]) ∧ RB w' A1 k1 x ∧ RB w' A2 k2 y ∧ RB w' A3 k3 z ∧ k1 ≤ c1 ∧ k2 ≤ c2 ∧ k3 ≤ c3 ∧ Below w.heap.size w w'
set_option maxRecDepth 100000 in
set_option maxHeartbeats 2000000 in
theorem Split_calls (w : World) (A : Option Addr) (n c k1 k2 k3 : Nat) (x y z : List UInt8) (h : RB w A n (x ++ 46 :: (y ++ 46 :: z))) (hn : n ≤ 100000)
    (hx : ∀ b ∈ x, b ≠ 46) (hy : ∀ b ∈ y, b ≠ 46) (hz : ∀ b ∈ z, b ≠ 46) (h1 : x.length = k1) (h2 : y.length = k2) (h3 : z.length = k3) :
    Calls Tryd.prog 9 #[.slice A n c] w (SplitOk w x y z k1 k2 k3) := by
  have HL := Lib.hid h.len
  have hlen : n = k1 + 1 + (k2 + 1 + k3) := by have := h.len; simp at this; omega
  have hb1 : k1 ≤ 140737488355328 := by omega
  have hb2 : k2 ≤ 140737488355328 := by omega
  have hb3 : k3 ≤ 140737488355328 := by omega
  have HC0 := Lib.hid (Clone_calls w A _ n c h (by omega))
  have HH := Lib.hid (And.intro hx (And.intro hy (And.intro hz (And.intro h1 (And.intro h2 h3)))))
  clear h hx hy hz h1 h2 h3 hlen
  go_enter Tryd.func9, Tryd.ntmps9
  go_wp2_with fail
  refine HC0.out.mono ?_
  rintro e w1 ⟨v1, rfl, ⟨A1, c1, rfl, hc1, ho1⟩, hB1⟩
  rw [← HL.out] at hc1 ho1 ⊢
  have HB1 := Lib.hid hB1
  have HS := Lib.hid (SplitCompact_calls w1 A1 n c1 k1 k2 k3 x y z (Reads.of_own ho1) hc1 hn HH.out.1 HH.out.2.1 HH.out.2.2.1 HH.out.2.2.2.1 HH.out.2.2.2.2.1 HH.out.2.2.2.2.2)
  clear ho1 hB1 hc1 HC0
  go_wp2_with fail
  refine HS.out.mono ?_
  rintro e w2 ⟨Ax, cx, Ay, cy, Az, cz, rfl, hrx, hry, hrz, hB2⟩
  have HB2 := Lib.hid (below_then HB1.out hB2)
  have HY := Lib.hid hry
  have HZ := Lib.hid hrz
  have HCX := Lib.hid (Clone_calls w2 Ax x k1 cx hrx hb1)
  clear hrx hry hrz hB2 HS
  go_wp2_with fail
  refine HCX.out.mono ?_
  rintro e w3 ⟨v3, rfl, ⟨A3, c3, rfl, hc3, ho3⟩, hB3⟩
  rw [HH.out.2.2.2.1] at hc3 ho3 ⊢
  have HR3 := Lib.hid (Reads.of_own ho3 : RB w3 A3 k1 x)
  have HB3 := Lib.hid (below_then HB2.out hB3)
  have HZ3 := Lib.hid (HZ.out.below hB3 (Nat.le_refl _))
  have HCY := Lib.hid (Clone_calls w3 Ay y k2 cy (HY.out.below hB3 (Nat.le_refl _)) hb2)
  clear ho3 hB3 HCX HZ HY
  go_wp2_with fail
  refine HCY.out.mono ?_
  rintro e w4 ⟨v4, rfl, ⟨A4, c4, rfl, hc4, ho4⟩, hB4⟩
  rw [HH.out.2.2.2.2.1] at hc4 ho4 ⊢
  have HR34 := Lib.hid (HR3.out.below hB4 (Nat.le_refl _))
  have HR4 := Lib.hid (Reads.of_own ho4 : RB w4 A4 k2 y)
  have HB4 := Lib.hid (below_then HB3.out hB4)
  have HCZ := Lib.hid (Clone_calls w4 Az z k3 cz (HZ3.out.below hB4 (Nat.le_refl _)) hb3)
  clear ho4 hB4 HCY HZ3 HR3
  go_wp2_with fail
  refine HCZ.out.mono ?_
  rintro e w5 ⟨v5, rfl, ⟨A5, c5, rfl, hc5, ho5⟩, hB5⟩
  rw [HH.out.2.2.2.2.2] at hc5 ho5 ⊢
  have HR35 := Lib.hid (HR34.out.below hB5 (Nat.le_refl _))
  have HR45 := Lib.hid (HR4.out.below hB5 (Nat.le_refl _))
  have HR5 := Lib.hid (Reads.of_own ho5 : RB w5 A5 k3 z)
  have HB5 := Lib.hid (below_then HB4.out hB5)
  have HCC := Lib.hid (And.intro hc3 (And.intro hc4 hc5))
  clear ho5 hB5 HCZ hc3 hc4 hc5
  go_wp2
  exact bodyPost_ret (v := .tuple #[.slice A3 k1 c3, .slice A4 k2 c4, .slice A5 k3 c5, .bool true]) (by kernel_rfl) rfl ⟨_, _, _, _, _, _, rfl, HR35.out, HR45.out, HR5.out, HCC.out.1, HCC.out.2.1, HCC.out.2.2, HB5.out⟩
end Go.Proofs.YteecamdcfkielaaDoor.B64
