import Derived.Test.YtapjbdigpleekaaGreatGM
/- The walk of slices.symMergeCmpFunc over fields, both halves of two elements or more (any program that bears the same bodies); printed by gen_stmrg.py; the conditions are on places and on what lies in memory. -/
set_option linter.unusedVariables false
set_option linter.unusedSimpArgs false
namespace Go.Proofs.YtapjbdigpleekaaGreat.St
open Go.RowKit Go.Proofs.YtapjbdigpleekaaGreat.K Go.Sort Go.Lib Go.Proofs
variable {α : Type} [Inhabited α] {P : Program} {k : Nat}
section
variable {enc : α → List Value} {w : World} {blk off N : Nat} {cf : α → α → Int} {g : Nat} {cb : Array Value}
set_option maxHeartbeats 16000000 in
set_option maxRecDepth 1000000 in
theorem symMerge_C2 (L : Lays P k) (B : Base enc k w blk off N) (hS : SWO (ltOf cf)) (eg : ∀ args w, (callFunc g args).run P w = .ok (.enter g args) w) (hcmp : CmpLays P g cb enc k cf blk off N w) (cap : Nat) (m0 : Nat) (d : Array α) (os : Array Obj) (hd : d.size = N) (a m b : Nat) (h1 : a + 1 < m) (h2 : m + 1 < b) (h3 : b ≤ N) (hgt0 : m ≤ (a + b) / 2) (s1 : SortedIn (ltOf cf) a m d) (s2 : SortedIn (ltOf cf) m b d)
    (IH : ∀ (a' m' b' m0 : Nat) (d : Array α) (os : Array Obj), b' - a' < b - a → a' < m' → m' < b' → b' ≤ N → d.size = N → SortedIn (ltOf cf) a' m' d → SortedIn (ltOf cf) m' b' d → Calls P 125 #[.slice (some ⟨blk, off, none⟩) N cap, .int .i64 (a' : Nat), .int .i64 (m' : Nat), .int .i64 (b' : Nat), .func (.func g) #[] cb] (sortWorldK enc k w blk off m0 d os) (MrgPost cf enc k w blk off d a' b')) :
    Calls P 125 #[.slice (some ⟨blk, off, none⟩) N cap, .int .i64 (a : Nat), .int .i64 (m : Nat), .int .i64 (b : Nat), .func (.func g) #[] cb] (sortWorldK enc k w blk off m0 d os) (MrgPost cf enc k w blk off d a b) := by
  have HRT := Lib.hid (fun a m b m0 (d : Array α) os => rotate_calls (enc := enc) (w := w) (blk := blk) (off := off) L B cap (.func (.func g) #[] cb) a m b m0 d os)
  have mixed := L.mixed; have t0 := L.t_int; have a0 := L.a_int; have z0 := L.z_int; have v0 := L.v_int; have t1 := L.t_bool; have a1 := L.a_bool; have z1 := L.z_bool; have v1 := L.v_bool; have t2 := L.t_sl; have a2 := L.a_sl; have z2 := L.z_sl; have v2 := L.v_sl; have t3 := L.t_fn; have a3 := L.a_fn; have z3 := L.z_fn; have v3 := L.v_fn; have t4 := L.t_u; have a4 := L.a_u; have z4 := L.z_u; have v4 := L.v_u; have aE := L.aE; have zE := L.zE; have c0' := L.cSwap; have c1' := L.cRot; have c2' := L.cMrg
  have u2 := run_underlying L.t_sl
  have F0 := L.fMrg
  have HB := Lib.hid B
  have HS := Lib.hid (And.intro hS (And.intro s1 (And.intro s2 hcmp)))
  have hN := B.hN
  have HD := Lib.hid hd
  have HIH := Lib.hid IH
  obtain ⟨ma, hma⟩ : ∃ x, x = m - a := ⟨_, rfl⟩
  have ema : (m : Int) - (a : Int) = (ma : Nat) := by omega
  have hm1 : ((ma : Int) == 1) = false := by rw [beq_eq_false_iff_ne]; omega
  obtain ⟨mb, hmb⟩ : ∃ x, x = b - m := ⟨_, rfl⟩
  have emb : (b : Int) - (m : Int) = (mb : Nat) := by omega
  have hm2 : ((mb : Int) == 1) = false := by rw [beq_eq_false_iff_ne]; omega
  obtain ⟨mid, hmid⟩ : ∃ x, x = (a + b) / 2 := ⟨_, rfl⟩
  have emid : ((a : Int) + (b : Int)) / 2 = (mid : Nat) := by omega
  have hamid : a ≤ mid := by omega
  have hmidb : mid ≤ b := by omega
  have hmidb' : mid < b := by omega
  have hamid' : a < mid := by omega
  obtain ⟨nm, hnm⟩ : ∃ x, x = mid + m := ⟨_, rfl⟩
  have enm : (mid : Int) + (m : Int) = (nm : Nat) := by omega
  obtain ⟨p, hp⟩ : ∃ x, x = nm - 1 := ⟨_, rfl⟩
  have ep : (nm : Int) - 1 = (p : Nat) := by omega
  have HPN := Lib.hid (show p + 1 = nm ∧ nm = mid + m ∧ mid = (a + b) / 2 by omega)
  have hgt : ¬ mid < m := by omega
  have hg : ¬ (mid : Int) < (m : Int) := by omega
  have hlo0 := hgt
  have HLO := Lib.hid (show a ≤ m ∧ m ≤ mid by omega)
  clear B hd L hS s1 s2 hcmp IH hma hmb hmid hnm hp hlo0
  go_enter F0, Tryz.ntmps125
  go_wp2_with fail
  go_loopg [20, 21] (m - a) (fun q u v wr => ∃ (i j nn : Nat) (os' : Array Obj), j = i + q ∧ u = .int .i64 (i : Nat) ∧ v = .int .i64 (j : Nat) ∧ wr = sortWorldK enc k w blk off nn d os' ∧ Hid (a ≤ i ∧ j ≤ m ∧ (i = a ∨ ltOf cf d[p - (i - 1)]! d[i - 1]! = false) ∧ (j = m ∨ ltOf cf d[p - j]! d[j]! = true)))
  case atStart => exact ⟨a, m, m0, os, by have := HLO.out; omega, rfl, rfl, rfl, Lib.hid ⟨Nat.le_refl _, Nat.le_refl _, .inl rfl, .inl rfl⟩⟩
  case round =>
    obtain ⟨i, j, nn, os', hq, rfl, rfl, rfl, HSR⟩ := hrel
    obtain ⟨b1, b2, _, _⟩ := HSR.out
    have HQ := Lib.hid hq
    have hqq := hq
    clear hq
    by_cases hij : i < j
    · have hlt : (i : Int) < (j : Int) := by omega
      obtain ⟨h, hh⟩ : ∃ h, h = (i + j) / 2 := ⟨_, rfl⟩
      have hhi : i ≤ h := by omega
      have hhj : h < j := by omega
      obtain ⟨pc, hpc⟩ : ∃ x, x = p - h := ⟨_, rfl⟩
      have hlo := HLO.out
      have hpn := HPN.out
      have hph : h ≤ p := by omega
      have epc : (p : Int) - (h : Int) = (pc : Nat) := by omega
      have hwp : IntKind.i64.wrap (pc : Int) = (pc : Nat) := by rw [IntKind.wrap_i64]; omega
      have hb1 : h < N := by omega
      have hb2 : pc < N := by omega
      have hhN : (h : Int) < (N : Int) := by omega
      have hmN : (pc : Int) < (N : Int) := by omega
      have HPC := Lib.hid hpc
      clear hlo hpn hpc hqq
      have eh : ((i : Int) + (j : Int)) / 2 = (h : Nat) := by omega
      obtain ⟨wq, hwq⟩ : ∃ wq, wq = sortWorldK enc k w blk off nn d os' := ⟨_, rfl⟩
      obtain ⟨CLS0, lj, lp, hcg⟩ := HB.out.cmp_ (P := P) HS.out.2.2.2 nn d os' HD.out pc h (by omega) (by omega) hwq
      have CLS := Lib.hid CLS0
      rw [← hwq]
      obtain ⟨x1, hx1⟩ : ∃ x, x = d[pc]! := ⟨_, rfl⟩
      obtain ⟨x2, hx2⟩ : ∃ x, x = d[h]! := ⟨_, rfl⟩
      rw [← hx1] at lj hcg
      rw [← hx2] at lp hcg
      have HX := Lib.hid (And.intro hx1 hx2)
      clear CLS0 hx1 hx2 hh hwq
      by_cases hlv : cf x1 x2 < 0
      · have hl1 : decide (cf x1 x2 < 0) = true := decide_eq_true hlv
        have hl2 : decide (0 ≤ cf x1 x2) = false := decide_eq_false (by omega)
        go_wp2_with fail
        go_quiet_grown (first | (go_at_fn g; refine Calls.grown_of (hcg _ _)))
        go_wp2_with fail
        go_roundg (h - i)
        case measure => have := HQ.out; omega
        case rel => exact ⟨i, h, nn + nq, os' ++ osq, by omega, rfl, by go_num, CLS.out nq osq, Lib.hid ⟨b1, by omega, HSR.out.2.2.1, .inr (by rw [← HPC.out, ← HX.out.1, ← HX.out.2]; exact decide_eq_true hlv)⟩⟩
      · have hl0 : 0 ≤ cf x1 x2 := by omega
        have hl1 : decide (cf x1 x2 < 0) = false := decide_eq_false (by omega)
        have hl2 : decide (0 ≤ cf x1 x2) = true := decide_eq_true hl0
        go_wp2_with fail
        go_quiet_grown (first | (go_at_fn g; refine Calls.grown_of (hcg _ _)))
        go_wp2_with fail
        go_roundg (j - (h + 1))
        case measure => have := HQ.out; omega
        case rel => exact ⟨h + 1, j, nn + nq, os' ++ osq, by omega, by go_num, rfl, CLS.out nq osq, Lib.hid ⟨by omega, b2, .inr (by rw [show h + 1 - 1 = h by omega, ← HPC.out, ← HX.out.1, ← HX.out.2]; exact decide_eq_false (by omega)), HSR.out.2.2.2⟩⟩
    · have hlt : ¬ (i : Int) < (j : Int) := by omega
      obtain rfl : i = j := by omega
      obtain ⟨e, he⟩ : ∃ e, e = nm - i := ⟨_, rfl⟩
      have hlo := HLO.out
      have hpn := HPN.out
      have ee : (nm : Int) - (i : Int) = (e : Nat) := by omega
      have HCT := Lib.hid (show Cut a m b mid i e by unfold Cut; omega)
      have HF := Lib.hid (show (a < i → e < b → ltOf cf d[e]! d[i - 1]! = false) ∧ (i < m → m < e → ltOf cf d[e - 1]! d[i]! = true) by
        obtain ⟨_, _, f1, f2⟩ := HSR.out
        refine ⟨fun y1 y2 => ?_, fun y1 y2 => ?_⟩
        · rcases f1 with f1 | f1
          · omega
          · rw [show e = p - (i - 1) by omega]; exact f1
        · rcases f2 with f2 | f2
          · omega
          · rw [show e - 1 = p - i by omega]; exact f2)
      obtain ⟨k1, k2, k3, k4, k5, k6, k7, k8, k9⟩ := HCT.out
      clear hlo hpn hqq he
      by_cases c1 : i < m ∧ m < e
      · obtain ⟨c1a, c1b⟩ := c1
        have g5 : (i : Int) < (m : Int) := by omega
        have g6 : (m : Int) < (e : Int) := by omega
        have HC1 := Lib.hid (HRT.out i m e nn d os' HD.out (by omega) (by omega) (by omega))
        go_upto_region 41 with (go_at_call 126; go_loud ((with_reducible refine Calls.mono HC1.out ?_); rintro e1 w1 ⟨rfl, q1, d1, hw1, hr1, hp1⟩; subst hw1; have HR1 := Lib.hid (And.intro hr1 (And.intro (permIn_mono d d1 i e a b (by omega) (by omega) (by rw [HD.out]; exact h3) hp1) (hp1.1.trans HD.out))); clear hr1 hp1))
        have HPT := Lib.hid (parts HS.out.1 HCT.out HS.out.2.1 HS.out.2.2.1 HF.out.1 HF.out.2 HR1.out.1)
        by_cases c2 : a < i ∧ i < mid
        · obtain ⟨c2a, c2b⟩ := c2
          have g3 : (a : Int) < (i : Int) := by omega
          have g4 : (i : Int) < (mid : Int) := by omega
          have HC2 := Lib.hid (HIH.out a i mid q1 d1 os' (by omega) (by omega) (by omega) (by omega) HR1.out.2.2 HPT.out.1 HPT.out.2.1)
          go_upto_region 43 with (go_at_call 125; go_loud ((with_reducible refine Calls.mono HC2.out ?_); rintro e2 w2 ⟨rfl, q2, d2, os2, hw2, hp2, hs2⟩; subst hw2; have HL2 := Lib.hid (And.intro hp2 hs2); clear hp2 hs2))
          by_cases c3 : mid < e ∧ e < b
          · obtain ⟨c3a, c3b⟩ := c3
            have g1 : (mid : Int) < (e : Int) := by omega
            have g2 : (e : Int) < (b : Int) := by omega
            have HC3 := Lib.hid (HIH.out mid e b q2 d2 os2 (by omega) (by omega) (by omega) h3 (HL2.out.1.1.trans HR1.out.2.2) (keepS HL2.out.1 (.inr (Nat.le_refl _)) HPT.out.2.2.1) (keepS HL2.out.1 (.inr (by omega)) HPT.out.2.2.2.1))
            go_wp2_with (go_at_call 125; go_loud ((with_reducible refine Calls.mono HC3.out ?_); rintro e3 w3 ⟨rfl, q3, d3, os3, hw3, hp3, hs3⟩; have HL3 := Lib.hid (And.intro hp3 (And.intro hs3 hw3)); clear hp3 hs3 hw3))
            go_wp2
            go_end0
            obtain ⟨j1, j2⟩ := joined HS.out.1 hamid hmidb (by rw [HR1.out.2.2]; exact h3) HPT.out.2.2.2.2 HL2.out.1 HL2.out.2 HL3.out.1 HL3.out.2.1
            exact ⟨rfl, q3, d3, os3, HL3.out.2.2, permIn_trans _ _ _ a b HR1.out.2.1 j1, j2⟩
          · have g1 : ((mid : Int) < (e : Int)) ∨ True := .inr trivial
            have hs2 : SortedIn (ltOf cf) mid b d2 := by
              have k1 := keepS HL2.out.1 (.inr (Nat.le_refl _)) HPT.out.2.2.1
              have k2 := keepS HL2.out.1 (.inr (show mid ≤ e by omega)) HPT.out.2.2.2.1
              by_cases hx : mid < e
              · obtain rfl : e = b := by omega
                exact k1
              · obtain rfl : mid = e := by omega
                exact k2
            have HS2 := Lib.hid hs2
            clear hs2 g1

            by_cases c4 : mid < e
            · have g1 : (mid : Int) < (e : Int) := by omega
              have g2 : ¬ (e : Int) < (b : Int) := by omega
              go_wp2
              go_end0
              obtain ⟨j1, j2⟩ := joined HS.out.1 hamid hmidb (by rw [HR1.out.2.2]; exact h3) HPT.out.2.2.2.2 HL2.out.1 HL2.out.2 (permIn_refl d2 mid b) HS2.out
              exact ⟨rfl, q2, d2, os2, rfl, permIn_trans _ _ _ a b HR1.out.2.1 j1, j2⟩
            · have g1 : ¬ (mid : Int) < (e : Int) := by omega
              go_wp2
              go_end0
              obtain ⟨j1, j2⟩ := joined HS.out.1 hamid hmidb (by rw [HR1.out.2.2]; exact h3) HPT.out.2.2.2.2 HL2.out.1 HL2.out.2 (permIn_refl d2 mid b) HS2.out
              exact ⟨rfl, q2, d2, os2, rfl, permIn_trans _ _ _ a b HR1.out.2.1 j1, j2⟩
        · have hs1 : SortedIn (ltOf cf) a mid d1 := by
            have k1 := HPT.out.1
            have k2 := HPT.out.2.1
            by_cases hx : a < i
            · obtain rfl : i = mid := by omega
              exact k1
            · obtain rfl : a = i := by omega
              exact k2
          have HL2 := Lib.hid (And.intro (permIn_refl d1 a mid) hs1)
          clear hs1
          obtain ⟨d2, hd2⟩ : ∃ d2, d2 = d1 := ⟨_, rfl⟩
          obtain ⟨q2, hq2⟩ : ∃ q2, q2 = q1 := ⟨_, rfl⟩
          obtain ⟨os2, hos2⟩ : ∃ os2, os2 = os' := ⟨_, rfl⟩
          have HL2 := Lib.hid (show PermIn a mid d1 d2 ∧ SortedIn (ltOf cf) a mid d2 by rw [hd2]; exact HL2.out)
          rw [← hd2, ← hq2, ← hos2]
          clear hd2 hq2 hos2

          by_cases c5 : a < i
          · have g3 : (a : Int) < (i : Int) := by omega
            have g4 : ¬ (i : Int) < (mid : Int) := by omega
            go_upto_region 43 with (fail)
            by_cases c3 : mid < e ∧ e < b
            · obtain ⟨c3a, c3b⟩ := c3
              have g1 : (mid : Int) < (e : Int) := by omega
              have g2 : (e : Int) < (b : Int) := by omega
              have HC3 := Lib.hid (HIH.out mid e b q2 d2 os2 (by omega) (by omega) (by omega) h3 (HL2.out.1.1.trans HR1.out.2.2) (keepS HL2.out.1 (.inr (Nat.le_refl _)) HPT.out.2.2.1) (keepS HL2.out.1 (.inr (by omega)) HPT.out.2.2.2.1))
              go_wp2_with (go_at_call 125; go_loud ((with_reducible refine Calls.mono HC3.out ?_); rintro e3 w3 ⟨rfl, q3, d3, os3, hw3, hp3, hs3⟩; have HL3 := Lib.hid (And.intro hp3 (And.intro hs3 hw3)); clear hp3 hs3 hw3))
              go_wp2
              go_end0
              obtain ⟨j1, j2⟩ := joined HS.out.1 hamid hmidb (by rw [HR1.out.2.2]; exact h3) HPT.out.2.2.2.2 HL2.out.1 HL2.out.2 HL3.out.1 HL3.out.2.1
              exact ⟨rfl, q3, d3, os3, HL3.out.2.2, permIn_trans _ _ _ a b HR1.out.2.1 j1, j2⟩
            · have g1 : ((mid : Int) < (e : Int)) ∨ True := .inr trivial
              have hs2 : SortedIn (ltOf cf) mid b d2 := by
                have k1 := keepS HL2.out.1 (.inr (Nat.le_refl _)) HPT.out.2.2.1
                have k2 := keepS HL2.out.1 (.inr (show mid ≤ e by omega)) HPT.out.2.2.2.1
                by_cases hx : mid < e
                · obtain rfl : e = b := by omega
                  exact k1
                · obtain rfl : mid = e := by omega
                  exact k2
              have HS2 := Lib.hid hs2
              clear hs2 g1

              by_cases c4 : mid < e
              · have g1 : (mid : Int) < (e : Int) := by omega
                have g2 : ¬ (e : Int) < (b : Int) := by omega
                go_wp2
                go_end0
                obtain ⟨j1, j2⟩ := joined HS.out.1 hamid hmidb (by rw [HR1.out.2.2]; exact h3) HPT.out.2.2.2.2 HL2.out.1 HL2.out.2 (permIn_refl d2 mid b) HS2.out
                exact ⟨rfl, q2, d2, os2, rfl, permIn_trans _ _ _ a b HR1.out.2.1 j1, j2⟩
              · have g1 : ¬ (mid : Int) < (e : Int) := by omega
                go_wp2
                go_end0
                obtain ⟨j1, j2⟩ := joined HS.out.1 hamid hmidb (by rw [HR1.out.2.2]; exact h3) HPT.out.2.2.2.2 HL2.out.1 HL2.out.2 (permIn_refl d2 mid b) HS2.out
                exact ⟨rfl, q2, d2, os2, rfl, permIn_trans _ _ _ a b HR1.out.2.1 j1, j2⟩
          · have g3 : ¬ (a : Int) < (i : Int) := by omega
            go_upto_region 43 with (fail)
            by_cases c3 : mid < e ∧ e < b
            · obtain ⟨c3a, c3b⟩ := c3
              have g1 : (mid : Int) < (e : Int) := by omega
              have g2 : (e : Int) < (b : Int) := by omega
              have HC3 := Lib.hid (HIH.out mid e b q2 d2 os2 (by omega) (by omega) (by omega) h3 (HL2.out.1.1.trans HR1.out.2.2) (keepS HL2.out.1 (.inr (Nat.le_refl _)) HPT.out.2.2.1) (keepS HL2.out.1 (.inr (by omega)) HPT.out.2.2.2.1))
              go_wp2_with (go_at_call 125; go_loud ((with_reducible refine Calls.mono HC3.out ?_); rintro e3 w3 ⟨rfl, q3, d3, os3, hw3, hp3, hs3⟩; have HL3 := Lib.hid (And.intro hp3 (And.intro hs3 hw3)); clear hp3 hs3 hw3))
              go_wp2
              go_end0
              obtain ⟨j1, j2⟩ := joined HS.out.1 hamid hmidb (by rw [HR1.out.2.2]; exact h3) HPT.out.2.2.2.2 HL2.out.1 HL2.out.2 HL3.out.1 HL3.out.2.1
              exact ⟨rfl, q3, d3, os3, HL3.out.2.2, permIn_trans _ _ _ a b HR1.out.2.1 j1, j2⟩
            · have g1 : ((mid : Int) < (e : Int)) ∨ True := .inr trivial
              have hs2 : SortedIn (ltOf cf) mid b d2 := by
                have k1 := keepS HL2.out.1 (.inr (Nat.le_refl _)) HPT.out.2.2.1
                have k2 := keepS HL2.out.1 (.inr (show mid ≤ e by omega)) HPT.out.2.2.2.1
                by_cases hx : mid < e
                · obtain rfl : e = b := by omega
                  exact k1
                · obtain rfl : mid = e := by omega
                  exact k2
              have HS2 := Lib.hid hs2
              clear hs2 g1

              by_cases c4 : mid < e
              · have g1 : (mid : Int) < (e : Int) := by omega
                have g2 : ¬ (e : Int) < (b : Int) := by omega
                go_wp2
                go_end0
                obtain ⟨j1, j2⟩ := joined HS.out.1 hamid hmidb (by rw [HR1.out.2.2]; exact h3) HPT.out.2.2.2.2 HL2.out.1 HL2.out.2 (permIn_refl d2 mid b) HS2.out
                exact ⟨rfl, q2, d2, os2, rfl, permIn_trans _ _ _ a b HR1.out.2.1 j1, j2⟩
              · have g1 : ¬ (mid : Int) < (e : Int) := by omega
                go_wp2
                go_end0
                obtain ⟨j1, j2⟩ := joined HS.out.1 hamid hmidb (by rw [HR1.out.2.2]; exact h3) HPT.out.2.2.2.2 HL2.out.1 HL2.out.2 (permIn_refl d2 mid b) HS2.out
                exact ⟨rfl, q2, d2, os2, rfl, permIn_trans _ _ _ a b HR1.out.2.1 j1, j2⟩
      · have hrr : Rot d d i m e := by
          by_cases hx : i < m
          · obtain rfl : m = e := by omega
            exact rot_right d i m (by omega)
          · obtain rfl : i = m := by omega
            exact rot_left d i e (by omega)
        obtain ⟨d1, hd1⟩ : ∃ d1, d1 = d := ⟨_, rfl⟩
        obtain ⟨q1, hq1⟩ : ∃ q1, q1 = nn := ⟨_, rfl⟩
        have HR1 := Lib.hid (show Rot d d1 i m e ∧ PermIn a b d d1 ∧ d1.size = N by rw [hd1]; exact ⟨hrr, permIn_refl d a b, HD.out⟩)
        have HDD := Lib.hid hd1
        have HQ1 := Lib.hid hq1
        clear hrr
        have HPT := Lib.hid (parts HS.out.1 HCT.out HS.out.2.1 HS.out.2.2.1 HF.out.1 HF.out.2 HR1.out.1)

        by_cases c6 : i < m
        · have g5 : (i : Int) < (m : Int) := by omega
          have g6 : ¬ (m : Int) < (e : Int) := by omega
          go_upto_region 41 with (fail)
          rw [← hd1, ← hq1]
          clear hd1 hq1
          by_cases c2 : a < i ∧ i < mid
          · obtain ⟨c2a, c2b⟩ := c2
            have g3 : (a : Int) < (i : Int) := by omega
            have g4 : (i : Int) < (mid : Int) := by omega
            have HC2 := Lib.hid (HIH.out a i mid q1 d1 os' (by omega) (by omega) (by omega) (by omega) HR1.out.2.2 HPT.out.1 HPT.out.2.1)
            go_upto_region 43 with (go_at_call 125; go_loud ((with_reducible refine Calls.mono HC2.out ?_); rintro e2 w2 ⟨rfl, q2, d2, os2, hw2, hp2, hs2⟩; subst hw2; have HL2 := Lib.hid (And.intro hp2 hs2); clear hp2 hs2))
            by_cases c3 : mid < e ∧ e < b
            · obtain ⟨c3a, c3b⟩ := c3
              have g1 : (mid : Int) < (e : Int) := by omega
              have g2 : (e : Int) < (b : Int) := by omega
              have HC3 := Lib.hid (HIH.out mid e b q2 d2 os2 (by omega) (by omega) (by omega) h3 (HL2.out.1.1.trans HR1.out.2.2) (keepS HL2.out.1 (.inr (Nat.le_refl _)) HPT.out.2.2.1) (keepS HL2.out.1 (.inr (by omega)) HPT.out.2.2.2.1))
              go_wp2_with (go_at_call 125; go_loud ((with_reducible refine Calls.mono HC3.out ?_); rintro e3 w3 ⟨rfl, q3, d3, os3, hw3, hp3, hs3⟩; have HL3 := Lib.hid (And.intro hp3 (And.intro hs3 hw3)); clear hp3 hs3 hw3))
              go_wp2
              go_end0
              obtain ⟨j1, j2⟩ := joined HS.out.1 hamid hmidb (by rw [HR1.out.2.2]; exact h3) HPT.out.2.2.2.2 HL2.out.1 HL2.out.2 HL3.out.1 HL3.out.2.1
              exact ⟨rfl, q3, d3, os3, HL3.out.2.2, permIn_trans _ _ _ a b HR1.out.2.1 j1, j2⟩
            · have g1 : ((mid : Int) < (e : Int)) ∨ True := .inr trivial
              have hs2 : SortedIn (ltOf cf) mid b d2 := by
                have k1 := keepS HL2.out.1 (.inr (Nat.le_refl _)) HPT.out.2.2.1
                have k2 := keepS HL2.out.1 (.inr (show mid ≤ e by omega)) HPT.out.2.2.2.1
                by_cases hx : mid < e
                · obtain rfl : e = b := by omega
                  exact k1
                · obtain rfl : mid = e := by omega
                  exact k2
              have HS2 := Lib.hid hs2
              clear hs2 g1

              by_cases c4 : mid < e
              · have g1 : (mid : Int) < (e : Int) := by omega
                have g2 : ¬ (e : Int) < (b : Int) := by omega
                go_wp2
                go_end0
                obtain ⟨j1, j2⟩ := joined HS.out.1 hamid hmidb (by rw [HR1.out.2.2]; exact h3) HPT.out.2.2.2.2 HL2.out.1 HL2.out.2 (permIn_refl d2 mid b) HS2.out
                exact ⟨rfl, q2, d2, os2, rfl, permIn_trans _ _ _ a b HR1.out.2.1 j1, j2⟩
              · have g1 : ¬ (mid : Int) < (e : Int) := by omega
                go_wp2
                go_end0
                obtain ⟨j1, j2⟩ := joined HS.out.1 hamid hmidb (by rw [HR1.out.2.2]; exact h3) HPT.out.2.2.2.2 HL2.out.1 HL2.out.2 (permIn_refl d2 mid b) HS2.out
                exact ⟨rfl, q2, d2, os2, rfl, permIn_trans _ _ _ a b HR1.out.2.1 j1, j2⟩
          · have hs1 : SortedIn (ltOf cf) a mid d1 := by
              have k1 := HPT.out.1
              have k2 := HPT.out.2.1
              by_cases hx : a < i
              · obtain rfl : i = mid := by omega
                exact k1
              · obtain rfl : a = i := by omega
                exact k2
            have HL2 := Lib.hid (And.intro (permIn_refl d1 a mid) hs1)
            clear hs1
            obtain ⟨d2, hd2⟩ : ∃ d2, d2 = d1 := ⟨_, rfl⟩
            obtain ⟨q2, hq2⟩ : ∃ q2, q2 = q1 := ⟨_, rfl⟩
            obtain ⟨os2, hos2⟩ : ∃ os2, os2 = os' := ⟨_, rfl⟩
            have HL2 := Lib.hid (show PermIn a mid d1 d2 ∧ SortedIn (ltOf cf) a mid d2 by rw [hd2]; exact HL2.out)
            rw [← hd2, ← hq2, ← hos2]
            clear hd2 hq2 hos2

            by_cases c5 : a < i
            · have g3 : (a : Int) < (i : Int) := by omega
              have g4 : ¬ (i : Int) < (mid : Int) := by omega
              go_upto_region 43 with (fail)
              by_cases c3 : mid < e ∧ e < b
              · obtain ⟨c3a, c3b⟩ := c3
                have g1 : (mid : Int) < (e : Int) := by omega
                have g2 : (e : Int) < (b : Int) := by omega
                have HC3 := Lib.hid (HIH.out mid e b q2 d2 os2 (by omega) (by omega) (by omega) h3 (HL2.out.1.1.trans HR1.out.2.2) (keepS HL2.out.1 (.inr (Nat.le_refl _)) HPT.out.2.2.1) (keepS HL2.out.1 (.inr (by omega)) HPT.out.2.2.2.1))
                go_wp2_with (go_at_call 125; go_loud ((with_reducible refine Calls.mono HC3.out ?_); rintro e3 w3 ⟨rfl, q3, d3, os3, hw3, hp3, hs3⟩; have HL3 := Lib.hid (And.intro hp3 (And.intro hs3 hw3)); clear hp3 hs3 hw3))
                go_wp2
                go_end0
                obtain ⟨j1, j2⟩ := joined HS.out.1 hamid hmidb (by rw [HR1.out.2.2]; exact h3) HPT.out.2.2.2.2 HL2.out.1 HL2.out.2 HL3.out.1 HL3.out.2.1
                exact ⟨rfl, q3, d3, os3, HL3.out.2.2, permIn_trans _ _ _ a b HR1.out.2.1 j1, j2⟩
              · have g1 : ((mid : Int) < (e : Int)) ∨ True := .inr trivial
                have hs2 : SortedIn (ltOf cf) mid b d2 := by
                  have k1 := keepS HL2.out.1 (.inr (Nat.le_refl _)) HPT.out.2.2.1
                  have k2 := keepS HL2.out.1 (.inr (show mid ≤ e by omega)) HPT.out.2.2.2.1
                  by_cases hx : mid < e
                  · obtain rfl : e = b := by omega
                    exact k1
                  · obtain rfl : mid = e := by omega
                    exact k2
                have HS2 := Lib.hid hs2
                clear hs2 g1

                by_cases c4 : mid < e
                · have g1 : (mid : Int) < (e : Int) := by omega
                  have g2 : ¬ (e : Int) < (b : Int) := by omega
                  go_wp2
                  go_end0
                  obtain ⟨j1, j2⟩ := joined HS.out.1 hamid hmidb (by rw [HR1.out.2.2]; exact h3) HPT.out.2.2.2.2 HL2.out.1 HL2.out.2 (permIn_refl d2 mid b) HS2.out
                  exact ⟨rfl, q2, d2, os2, rfl, permIn_trans _ _ _ a b HR1.out.2.1 j1, j2⟩
                · have g1 : ¬ (mid : Int) < (e : Int) := by omega
                  go_wp2
                  go_end0
                  obtain ⟨j1, j2⟩ := joined HS.out.1 hamid hmidb (by rw [HR1.out.2.2]; exact h3) HPT.out.2.2.2.2 HL2.out.1 HL2.out.2 (permIn_refl d2 mid b) HS2.out
                  exact ⟨rfl, q2, d2, os2, rfl, permIn_trans _ _ _ a b HR1.out.2.1 j1, j2⟩
            · have g3 : ¬ (a : Int) < (i : Int) := by omega
              go_upto_region 43 with (fail)
              by_cases c3 : mid < e ∧ e < b
              · obtain ⟨c3a, c3b⟩ := c3
                have g1 : (mid : Int) < (e : Int) := by omega
                have g2 : (e : Int) < (b : Int) := by omega
                have HC3 := Lib.hid (HIH.out mid e b q2 d2 os2 (by omega) (by omega) (by omega) h3 (HL2.out.1.1.trans HR1.out.2.2) (keepS HL2.out.1 (.inr (Nat.le_refl _)) HPT.out.2.2.1) (keepS HL2.out.1 (.inr (by omega)) HPT.out.2.2.2.1))
                go_wp2_with (go_at_call 125; go_loud ((with_reducible refine Calls.mono HC3.out ?_); rintro e3 w3 ⟨rfl, q3, d3, os3, hw3, hp3, hs3⟩; have HL3 := Lib.hid (And.intro hp3 (And.intro hs3 hw3)); clear hp3 hs3 hw3))
                go_wp2
                go_end0
                obtain ⟨j1, j2⟩ := joined HS.out.1 hamid hmidb (by rw [HR1.out.2.2]; exact h3) HPT.out.2.2.2.2 HL2.out.1 HL2.out.2 HL3.out.1 HL3.out.2.1
                exact ⟨rfl, q3, d3, os3, HL3.out.2.2, permIn_trans _ _ _ a b HR1.out.2.1 j1, j2⟩
              · have g1 : ((mid : Int) < (e : Int)) ∨ True := .inr trivial
                have hs2 : SortedIn (ltOf cf) mid b d2 := by
                  have k1 := keepS HL2.out.1 (.inr (Nat.le_refl _)) HPT.out.2.2.1
                  have k2 := keepS HL2.out.1 (.inr (show mid ≤ e by omega)) HPT.out.2.2.2.1
                  by_cases hx : mid < e
                  · obtain rfl : e = b := by omega
                    exact k1
                  · obtain rfl : mid = e := by omega
                    exact k2
                have HS2 := Lib.hid hs2
                clear hs2 g1

                by_cases c4 : mid < e
                · have g1 : (mid : Int) < (e : Int) := by omega
                  have g2 : ¬ (e : Int) < (b : Int) := by omega
                  go_wp2
                  go_end0
                  obtain ⟨j1, j2⟩ := joined HS.out.1 hamid hmidb (by rw [HR1.out.2.2]; exact h3) HPT.out.2.2.2.2 HL2.out.1 HL2.out.2 (permIn_refl d2 mid b) HS2.out
                  exact ⟨rfl, q2, d2, os2, rfl, permIn_trans _ _ _ a b HR1.out.2.1 j1, j2⟩
                · have g1 : ¬ (mid : Int) < (e : Int) := by omega
                  go_wp2
                  go_end0
                  obtain ⟨j1, j2⟩ := joined HS.out.1 hamid hmidb (by rw [HR1.out.2.2]; exact h3) HPT.out.2.2.2.2 HL2.out.1 HL2.out.2 (permIn_refl d2 mid b) HS2.out
                  exact ⟨rfl, q2, d2, os2, rfl, permIn_trans _ _ _ a b HR1.out.2.1 j1, j2⟩
        · have g5 : ¬ (i : Int) < (m : Int) := by omega
          go_upto_region 41 with (fail)
          rw [← hd1, ← hq1]
          clear hd1 hq1
          by_cases c2 : a < i ∧ i < mid
          · obtain ⟨c2a, c2b⟩ := c2
            have g3 : (a : Int) < (i : Int) := by omega
            have g4 : (i : Int) < (mid : Int) := by omega
            have HC2 := Lib.hid (HIH.out a i mid q1 d1 os' (by omega) (by omega) (by omega) (by omega) HR1.out.2.2 HPT.out.1 HPT.out.2.1)
            go_upto_region 43 with (go_at_call 125; go_loud ((with_reducible refine Calls.mono HC2.out ?_); rintro e2 w2 ⟨rfl, q2, d2, os2, hw2, hp2, hs2⟩; subst hw2; have HL2 := Lib.hid (And.intro hp2 hs2); clear hp2 hs2))
            by_cases c3 : mid < e ∧ e < b
            · obtain ⟨c3a, c3b⟩ := c3
              have g1 : (mid : Int) < (e : Int) := by omega
              have g2 : (e : Int) < (b : Int) := by omega
              have HC3 := Lib.hid (HIH.out mid e b q2 d2 os2 (by omega) (by omega) (by omega) h3 (HL2.out.1.1.trans HR1.out.2.2) (keepS HL2.out.1 (.inr (Nat.le_refl _)) HPT.out.2.2.1) (keepS HL2.out.1 (.inr (by omega)) HPT.out.2.2.2.1))
              go_wp2_with (go_at_call 125; go_loud ((with_reducible refine Calls.mono HC3.out ?_); rintro e3 w3 ⟨rfl, q3, d3, os3, hw3, hp3, hs3⟩; have HL3 := Lib.hid (And.intro hp3 (And.intro hs3 hw3)); clear hp3 hs3 hw3))
              go_wp2
              go_end0
              obtain ⟨j1, j2⟩ := joined HS.out.1 hamid hmidb (by rw [HR1.out.2.2]; exact h3) HPT.out.2.2.2.2 HL2.out.1 HL2.out.2 HL3.out.1 HL3.out.2.1
              exact ⟨rfl, q3, d3, os3, HL3.out.2.2, permIn_trans _ _ _ a b HR1.out.2.1 j1, j2⟩
            · have g1 : ((mid : Int) < (e : Int)) ∨ True := .inr trivial
              have hs2 : SortedIn (ltOf cf) mid b d2 := by
                have k1 := keepS HL2.out.1 (.inr (Nat.le_refl _)) HPT.out.2.2.1
                have k2 := keepS HL2.out.1 (.inr (show mid ≤ e by omega)) HPT.out.2.2.2.1
                by_cases hx : mid < e
                · obtain rfl : e = b := by omega
                  exact k1
                · obtain rfl : mid = e := by omega
                  exact k2
              have HS2 := Lib.hid hs2
              clear hs2 g1

              by_cases c4 : mid < e
              · have g1 : (mid : Int) < (e : Int) := by omega
                have g2 : ¬ (e : Int) < (b : Int) := by omega
                go_wp2
                go_end0
                obtain ⟨j1, j2⟩ := joined HS.out.1 hamid hmidb (by rw [HR1.out.2.2]; exact h3) HPT.out.2.2.2.2 HL2.out.1 HL2.out.2 (permIn_refl d2 mid b) HS2.out
                exact ⟨rfl, q2, d2, os2, rfl, permIn_trans _ _ _ a b HR1.out.2.1 j1, j2⟩
              · have g1 : ¬ (mid : Int) < (e : Int) := by omega
                go_wp2
                go_end0
                obtain ⟨j1, j2⟩ := joined HS.out.1 hamid hmidb (by rw [HR1.out.2.2]; exact h3) HPT.out.2.2.2.2 HL2.out.1 HL2.out.2 (permIn_refl d2 mid b) HS2.out
                exact ⟨rfl, q2, d2, os2, rfl, permIn_trans _ _ _ a b HR1.out.2.1 j1, j2⟩
          · have hs1 : SortedIn (ltOf cf) a mid d1 := by
              have k1 := HPT.out.1
              have k2 := HPT.out.2.1
              by_cases hx : a < i
              · obtain rfl : i = mid := by omega
                exact k1
              · obtain rfl : a = i := by omega
                exact k2
            have HL2 := Lib.hid (And.intro (permIn_refl d1 a mid) hs1)
            clear hs1
            obtain ⟨d2, hd2⟩ : ∃ d2, d2 = d1 := ⟨_, rfl⟩
            obtain ⟨q2, hq2⟩ : ∃ q2, q2 = q1 := ⟨_, rfl⟩
            obtain ⟨os2, hos2⟩ : ∃ os2, os2 = os' := ⟨_, rfl⟩
            have HL2 := Lib.hid (show PermIn a mid d1 d2 ∧ SortedIn (ltOf cf) a mid d2 by rw [hd2]; exact HL2.out)
            rw [← hd2, ← hq2, ← hos2]
            clear hd2 hq2 hos2

            by_cases c5 : a < i
            · have g3 : (a : Int) < (i : Int) := by omega
              have g4 : ¬ (i : Int) < (mid : Int) := by omega
              go_upto_region 43 with (fail)
              by_cases c3 : mid < e ∧ e < b
              · obtain ⟨c3a, c3b⟩ := c3
                have g1 : (mid : Int) < (e : Int) := by omega
                have g2 : (e : Int) < (b : Int) := by omega
                have HC3 := Lib.hid (HIH.out mid e b q2 d2 os2 (by omega) (by omega) (by omega) h3 (HL2.out.1.1.trans HR1.out.2.2) (keepS HL2.out.1 (.inr (Nat.le_refl _)) HPT.out.2.2.1) (keepS HL2.out.1 (.inr (by omega)) HPT.out.2.2.2.1))
                go_wp2_with (go_at_call 125; go_loud ((with_reducible refine Calls.mono HC3.out ?_); rintro e3 w3 ⟨rfl, q3, d3, os3, hw3, hp3, hs3⟩; have HL3 := Lib.hid (And.intro hp3 (And.intro hs3 hw3)); clear hp3 hs3 hw3))
                go_wp2
                go_end0
                obtain ⟨j1, j2⟩ := joined HS.out.1 hamid hmidb (by rw [HR1.out.2.2]; exact h3) HPT.out.2.2.2.2 HL2.out.1 HL2.out.2 HL3.out.1 HL3.out.2.1
                exact ⟨rfl, q3, d3, os3, HL3.out.2.2, permIn_trans _ _ _ a b HR1.out.2.1 j1, j2⟩
              · have g1 : ((mid : Int) < (e : Int)) ∨ True := .inr trivial
                have hs2 : SortedIn (ltOf cf) mid b d2 := by
                  have k1 := keepS HL2.out.1 (.inr (Nat.le_refl _)) HPT.out.2.2.1
                  have k2 := keepS HL2.out.1 (.inr (show mid ≤ e by omega)) HPT.out.2.2.2.1
                  by_cases hx : mid < e
                  · obtain rfl : e = b := by omega
                    exact k1
                  · obtain rfl : mid = e := by omega
                    exact k2
                have HS2 := Lib.hid hs2
                clear hs2 g1

                by_cases c4 : mid < e
                · have g1 : (mid : Int) < (e : Int) := by omega
                  have g2 : ¬ (e : Int) < (b : Int) := by omega
                  go_wp2
                  go_end0
                  obtain ⟨j1, j2⟩ := joined HS.out.1 hamid hmidb (by rw [HR1.out.2.2]; exact h3) HPT.out.2.2.2.2 HL2.out.1 HL2.out.2 (permIn_refl d2 mid b) HS2.out
                  exact ⟨rfl, q2, d2, os2, rfl, permIn_trans _ _ _ a b HR1.out.2.1 j1, j2⟩
                · have g1 : ¬ (mid : Int) < (e : Int) := by omega
                  go_wp2
                  go_end0
                  obtain ⟨j1, j2⟩ := joined HS.out.1 hamid hmidb (by rw [HR1.out.2.2]; exact h3) HPT.out.2.2.2.2 HL2.out.1 HL2.out.2 (permIn_refl d2 mid b) HS2.out
                  exact ⟨rfl, q2, d2, os2, rfl, permIn_trans _ _ _ a b HR1.out.2.1 j1, j2⟩
            · have g3 : ¬ (a : Int) < (i : Int) := by omega
              go_upto_region 43 with (fail)
              by_cases c3 : mid < e ∧ e < b
              · obtain ⟨c3a, c3b⟩ := c3
                have g1 : (mid : Int) < (e : Int) := by omega
                have g2 : (e : Int) < (b : Int) := by omega
                have HC3 := Lib.hid (HIH.out mid e b q2 d2 os2 (by omega) (by omega) (by omega) h3 (HL2.out.1.1.trans HR1.out.2.2) (keepS HL2.out.1 (.inr (Nat.le_refl _)) HPT.out.2.2.1) (keepS HL2.out.1 (.inr (by omega)) HPT.out.2.2.2.1))
                go_wp2_with (go_at_call 125; go_loud ((with_reducible refine Calls.mono HC3.out ?_); rintro e3 w3 ⟨rfl, q3, d3, os3, hw3, hp3, hs3⟩; have HL3 := Lib.hid (And.intro hp3 (And.intro hs3 hw3)); clear hp3 hs3 hw3))
                go_wp2
                go_end0
                obtain ⟨j1, j2⟩ := joined HS.out.1 hamid hmidb (by rw [HR1.out.2.2]; exact h3) HPT.out.2.2.2.2 HL2.out.1 HL2.out.2 HL3.out.1 HL3.out.2.1
                exact ⟨rfl, q3, d3, os3, HL3.out.2.2, permIn_trans _ _ _ a b HR1.out.2.1 j1, j2⟩
              · have g1 : ((mid : Int) < (e : Int)) ∨ True := .inr trivial
                have hs2 : SortedIn (ltOf cf) mid b d2 := by
                  have k1 := keepS HL2.out.1 (.inr (Nat.le_refl _)) HPT.out.2.2.1
                  have k2 := keepS HL2.out.1 (.inr (show mid ≤ e by omega)) HPT.out.2.2.2.1
                  by_cases hx : mid < e
                  · obtain rfl : e = b := by omega
                    exact k1
                  · obtain rfl : mid = e := by omega
                    exact k2
                have HS2 := Lib.hid hs2
                clear hs2 g1

                by_cases c4 : mid < e
                · have g1 : (mid : Int) < (e : Int) := by omega
                  have g2 : ¬ (e : Int) < (b : Int) := by omega
                  go_wp2
                  go_end0
                  obtain ⟨j1, j2⟩ := joined HS.out.1 hamid hmidb (by rw [HR1.out.2.2]; exact h3) HPT.out.2.2.2.2 HL2.out.1 HL2.out.2 (permIn_refl d2 mid b) HS2.out
                  exact ⟨rfl, q2, d2, os2, rfl, permIn_trans _ _ _ a b HR1.out.2.1 j1, j2⟩
                · have g1 : ¬ (mid : Int) < (e : Int) := by omega
                  go_wp2
                  go_end0
                  obtain ⟨j1, j2⟩ := joined HS.out.1 hamid hmidb (by rw [HR1.out.2.2]; exact h3) HPT.out.2.2.2.2 HL2.out.1 HL2.out.2 (permIn_refl d2 mid b) HS2.out
                  exact ⟨rfl, q2, d2, os2, rfl, permIn_trans _ _ _ a b HR1.out.2.1 j1, j2⟩
end
end Go.Proofs.YtapjbdigpleekaaGreat.St
