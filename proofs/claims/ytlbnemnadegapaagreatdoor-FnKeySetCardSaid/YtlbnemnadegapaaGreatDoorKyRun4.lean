/- The walk of KeyRun; the conditions are on what lies in memory. -/
import Derived.Test.YtlbnemnadegapaaGreatDoorKySw3
import Derived.Test.YtlbnemnadegapaaGreatDoorKyTl
import Derived.Deep.Cut
import Derived.Deep.CutRange
import Derived.Deep.CutBlock
import Derived.Deep.DeepCutAuto
set_option linter.unusedVariables false
set_option linter.unusedSimpArgs false
namespace Go.Proofs.YtlbnemnadegapaaGreatDoor.Ky
open Go.RowKit Go.Proofs.YtlbnemnadegapaaGreatDoor.K Go.Proofs.YtlbnemnadegapaaGreatDoor.Nm
/-- What KeyRun gives: the keys' blocks, a row of what the steps tell. -/
def RunPost (w : World) (N : Nat) (ds : List KD) (ss : List ST) (e : Ending) (w' : World) : Prop :=
  ∃ B v Ks, e = .returned v ∧ Ks.Nodup ∧ Ks.length = N ∧ Outs w' B v (runB Ks (idB Ks ds) [] ss) ∧ Below w.heap.size w w' ∧ w.heap.size ≤ B
section
variable {w w' : World}
set_option maxRecDepth 100000 in
set_option maxHeartbeats 8000000 in
theorem KeyRun_calls (ad : Addr) (N c : Nat) (ds : List KD) (hD : KDL w (some ad) N ds) (h20 : ds.length ≤ 20) (SA : Option Addr) (sn SC : Nat) (ss : List ST) (hS : STL w SA sn ss) (hsl : ss.length ≤ 1000) (Q : ByteArray → Prop) (hQ : ∀ l : List ByteArray, l.Nodup → (∀ s ∈ l, Q s) → l.length ≤ 12) (hk8 : ∀ s ∈ ss, 0 ≤ s.kind ∧ s.kind ≤ 8) (hQs : ∀ s ∈ ss, s.kind = 7 → Q s.id ∧ s.id ≠ nKeys) :
    Calls Tryz.prog 8 #[.slice (some ad) N c, .slice SA sn SC] w (RunPost w N ds ss) := by
  have hna : ∀ (W : World) (x : Nat), Sem.run Tryz.prog (nilAhead 297 83 (.pointer (some ⟨x, 0, none⟩)) "Set") W = .ok (some false) W := fun W x => by kernel_rfl
  have hms : ∀ (W : World) (x : Nat), (method 297 83 (.pointer (some ⟨x, 0, none⟩)) "Set").run Tryz.prog W = .ok (27, .pointer (some ⟨x, 0, none⟩)) W := fun W x => by kernel_rfl
  obtain ⟨i0, hi, hz0, hz1, hz2⟩ := info_parts infoU8
  have HI := Lib.hid (And.intro hi (And.intro hz0 (And.intro hz1 hz2)))
  obtain ⟨p, hp⟩ : ∃ p, p = w.heap.size := ⟨_, rfl⟩
  have HN := Lib.hid hD.len
  have HSN := Lib.hid hS.len
  have HST := Lib.hid hS
  have HQ := Lib.hid (And.intro hQ (And.intro hQs hk8))
  have HD := Lib.hid hD
  have HM0 := Lib.hid (show Made (w.alloc (.cells #[.slice none 0 0] 45)) p ds [] from ⟨List.nodup_nil, ⟨_, by rw [hp]; exact Blk.new w 45 #[.slice none 0 0], KL.nil _ _ _⟩, Nat.zero_le _, fun i h => absurd h (by simp)⟩)
  have HB0 := Lib.hid (below_alloc' (Below.refl w.heap.size w) (.cells #[.slice none 0 0] 45))
  clear hD hi hz0 hz1 hz2 hS hQ hQs hk8
  go_enter Tryz.func8, Tryz.ntmps8
  go_upto_block 0 with (fail)
  obtain ⟨w1, hw1⟩ : ∃ w1, w1 = w.alloc (.cells #[.slice none 0 0] 45) := ⟨_, rfl⟩
  rw [← hw1] at HM0 HB0 ⊢
  rw [← hp]
  have HP := Lib.hid hp
  have HPL : Hid (w.heap.size ≤ p) := Lib.hid (by omega)
  clear hp hw1
  go_cut [28] from 28 to 58 (fun u wc => ∃ Ks, u = .int .i64 N ∧ Hid (Made wc p ds Ks) ∧ Hid (Ks.length = N) ∧ Hid (Below w.heap.size w wc))
  case first =>
    go_wp2_with fail
    go_loopg [28] N (fun q u wr => ∃ Ks : List Nat, q + Ks.length = N ∧ u = .int .i64 (Ks.length : Nat) ∧ Hid (Made wr p ds Ks) ∧ Hid (Below w.heap.size w wr))
    case atStart => exact ⟨[], rfl, rfl, HM0, HB0⟩
    case round =>
      obtain ⟨Ks, hq, rfl, HM, HB⟩ := hrel
      clear HM0 HB0
      obtain ⟨j, hj⟩ : ∃ j, j = Ks.length := ⟨_, rfl⟩
      rw [← hj] at hq ⊢
      by_cases hjN : j < N
      · have hjd : j < ds.length := by rw [← HN.out]; exact hjN
        obtain ⟨d, hd⟩ : ∃ d, d = ds[j] := ⟨_, rfl⟩
        have HDr := Lib.hid (HD.out.below HB.out (Nat.le_refl _))
        obtain ⟨ad', hA, k0, k1, k2⟩ := HDr.out.at_ hjd
        obtain rfl := Option.some.inj hA
        rw [← hd] at k0 k1 k2
        have hdm : d ∈ ds := by rw [hd]; exact List.getElem_mem _
        have hdq : ds[j]? = some d := by rw [hd]; exact List.getElem?_eq_getElem _
        obtain ⟨r1, r2, r3, r4⟩ := HDr.out.2 d hdm
        have HR := Lib.hid (And.intro r1 (And.intro r2 (And.intro r3 r4)))
        have HJ := Lib.hid (And.intro hj hdq)
        obtain ⟨dA, dn, dc, dl, dh, di⟩ := d
        simp only at k0 k1 k2 r1 r2 r3 r4 HR
        have hps : p < wr.heap.size := by obtain ⟨_, hpb, _⟩ := HM.out.2.1; exact hpb.lt
        have hji : (j : Int) < (N : Int) := by omega
        have hown : ((wr.alloc (.cells #[.slice (some dA) dn dc, .bool dh, .string di] 39)).alloc (.cells #[] 5)).ownsRow (wr.heap.size + 1) 5 1 (.slice (some ⟨wr.heap.size + 1, 0, none⟩) 0 0) 0 [] := by
          have := own_empty (wr.alloc (.cells #[.slice (some dA) dn dc, .bool dh, .string di] 39)) 5
          rwa [World.size_alloc] at this
        have hbk : Blk ((wr.alloc (.cells #[.slice (some dA) dn dc, .bool dh, .string di] 39)).alloc (.cells #[] 5)) wr.heap.size 39 #[.slice (some dA) dn dc, .bool dh, .string di] := (Blk.new wr _ _).alloc _
        have hbb : Below wr.heap.size wr ((wr.alloc (.cells #[.slice (some dA) dn dc, .bool dh, .string di] 39)).alloc (.cells #[] 5)) := below_alloc' (below_alloc' (Below.refl _ _) _) _
        have hrd0 := r1.below hbb (Nat.le_refl _)
        have HO := Lib.hid (And.intro hown (And.intro hbk (And.intro hbb hrd0)))
        clear hown hbk hbb hrd0 r1 r2 hj hdq hd hdm
        clear hA
        cases dh with
        | false =>
          go_wp2_with (first
            | (at_builtin; refine wpList_append_own _ rfl _ _ 22 rfl (wr.heap.size + 1) 5 i0 (.int .u8 0) 1 1 Tryz.underlying22 HI.out.1 HI.out.2.1 HI.out.2.2.1 HI.out.2.2.2 rfl (by decide) _ 0 [] rfl HO.out.1 dA dn dc (bys dl) rfl (by have := HR.out.2.1; rw [bys_length]; omega) (fun k u hu => by obtain ⟨a', e', _, hc⟩ := HO.out.2.2.2.2 r3; injection e' with e'; subst e'; exact hc k u hu) (bys_one _) (by unfold maxLen; omega) (by omega) (by simp) ?_; intro v' w3 hown' hg3 _; obtain ⟨g', cap', rfl, hgb, hrd⟩ := octs_own hown' r3 HR.out.2.1; have hb3 := HO.out.2.2.1.trans (below_of_grown hg3 (B := wr.heap.size) (show wr.heap.size ≤ wr.heap.size + 1 by omega) HO.out.2.2.1.size); have hk3 := HO.out.2.1.grown hg3 (by intro e; injection e with e; have : wr.heap.size = wr.heap.size + 1 := e; omega); have H3 := Lib.hid (And.intro hb3 hk3); have HC := Lib.hid (NewSymmetric_calls w3 ⟨g', 0, none⟩ dn cap' dl HR.out.2.1 hrd (by omega) r3); clear hown' hg3 hrd hb3 hk3)
            | (go_at_call 11; (with_reducible refine Calls.mono HC.out ?_); rintro e w4 ⟨x, rfl, hx, b, hN1, hN2, hN3, hN4, hN5, hN6⟩; have hb4 := H3.out.1.trans (hN4.mono H3.out.1.size); have hid : KeyId w4 x (idOf ⟨dA, dn, dc, dl, false, di⟩) := ⟨_, none, hN2, rfl, .inl ⟨rfl, rfl⟩⟩; obtain ⟨KA, kn, kcap, KA', kn', kcap', w7, kk0, kk1, kk2, hRd⟩ := ready HM.out hb4 HB.out HPL.out (by omega) x (by have := H3.out.1.size; omega) (by have := HJ.out.1; omega) h20 _ (by rw [← HJ.out.1]; exact HJ.out.2) hid; have m1 : w4.cell? ⟨wr.heap.size, 1, none⟩ = some (.bool false) := (by rw [(H3.out.2.below hN4 H3.out.2.lt).cell]; rfl); have HRD := Lib.hid hRd; clear hx hN1 hN2 hN3 hN4 hN5 hN6 hb4 hid hRd)
            | (at_builtin; refine wpList_append_run rfl _ _ 45 rfl _ _ rfl rfl HRD.out.2.2 ?_))
          go_roundg (N - (j + 1))
          case measure => omega
          case rel => exact ⟨Ks ++ [x], by rw [List.length_append, ← HJ.out.1]; simp; omega, by rw [List.length_append, ← HJ.out.1]; go_num, Lib.hid HRD.out.1, Lib.hid HRD.out.2.1⟩
        | true =>
          go_wp2_with (first
            | (at_builtin; refine wpList_append_own _ rfl _ _ 22 rfl (wr.heap.size + 1) 5 i0 (.int .u8 0) 1 1 Tryz.underlying22 HI.out.1 HI.out.2.1 HI.out.2.2.1 HI.out.2.2.2 rfl (by decide) _ 0 [] rfl HO.out.1 dA dn dc (bys dl) rfl (by have := HR.out.2.1; rw [bys_length]; omega) (fun k u hu => by obtain ⟨a', e', _, hc⟩ := HO.out.2.2.2.2 r3; injection e' with e'; subst e'; exact hc k u hu) (bys_one _) (by unfold maxLen; omega) (by omega) (by simp) ?_; intro v' w3 hown' hg3 _; obtain ⟨g', cap', rfl, hgb, hrd⟩ := octs_own hown' r3 HR.out.2.1; have hb3 := HO.out.2.2.1.trans (below_of_grown hg3 (B := wr.heap.size) (show wr.heap.size ≤ wr.heap.size + 1 by omega) HO.out.2.2.1.size); have hk3 := HO.out.2.1.grown hg3 (by intro e; injection e with e; have : wr.heap.size = wr.heap.size + 1 := e; omega); have H3 := Lib.hid (And.intro hb3 hk3); have HC := Lib.hid (NewSymmetric_calls w3 ⟨g', 0, none⟩ dn cap' dl HR.out.2.1 hrd (by omega) r3); clear hown' hg3 hrd hb3 hk3)
            | (go_at_call 11; (with_reducible refine Calls.mono HC.out ?_); rintro e w4 ⟨x, rfl, hx, b, hN1, hN2, hN3, hN4, hN5, hN6⟩; have hb4 := Lib.hid (H3.out.1.trans (hN4.mono H3.out.1.size)); have HK4 := Lib.hid (H3.out.2.below hN4 H3.out.2.lt); have HXL : Hid (wr.heap.size ≤ x) := Lib.hid (by have := H3.out.1.size; omega); have HS := Lib.hid (SetKid_calls w4 x _ hN2 (by rfl) di); have m1 : w4.cell? ⟨wr.heap.size, 1, none⟩ = some (.bool true) := (by rw [HK4.out.cell]; rfl); have m2 : w4.cell? ⟨wr.heap.size, 2, none⟩ = some (.string di) := (by rw [HK4.out.cell]; rfl); clear hx hN1 hN2 hN3 hN4 hN5 hN6)
            | (go_at_call 27; (with_reducible refine Calls.mono HS.out ?_); rintro e w5 ⟨rfl, q1, q2, q3, q4⟩; have hb5 := hb4.out.trans (below_of_grown q3 HXL.out hb4.out.size); have hid : KeyId w5 x (idOf ⟨dA, dn, dc, dl, true, di⟩) := ⟨_, _, q2, rfl, .inr ⟨di, w4.heap.size, rfl, rfl, q1⟩⟩; obtain ⟨KA, kn, kcap, KA', kn', kcap', w7, kk0, kk1, kk2, hRd⟩ := ready HM.out hb5 HB.out HPL.out (by omega) x HXL.out (by have := HJ.out.1; omega) h20 _ (by rw [← HJ.out.1]; exact HJ.out.2) hid; have HRD := Lib.hid hRd; clear q1 q2 q3 q4 hb5 hid hRd m1 m2)
            | (at_builtin; refine wpList_append_run rfl _ _ 45 rfl _ _ rfl rfl HRD.out.2.2 ?_))
          go_roundg (N - (j + 1))
          case measure => omega
          case rel => exact ⟨Ks ++ [x], by rw [List.length_append, ← HJ.out.1]; simp; omega, by rw [List.length_append, ← HJ.out.1]; go_num, Lib.hid HRD.out.1, Lib.hid HRD.out.2.1⟩
      · obtain rfl : j = N := by omega
        go_wp2_with fail
        go_meet
        exact ⟨Ks, rfl, HM, Lib.hid hj.symm, HB⟩
  case rest =>
    clear HM0 HB0 HD
    obtain ⟨Ks, rfl, HM, HL, HB⟩ := hcut
    go_upto_block 2 with (go_at_call 13; refine (NewSet_calls Q wc).mono ?_; rintro e w2 ⟨g0, rfl, hg1, hg2⟩; have HG := Lib.hid (And.intro hg1 hg2); clear hg1 hg2)
    obtain ⟨B, hB⟩ : ∃ B, B = wc.heap.size := ⟨_, rfl⟩
    rw [← hB] at HG
    obtain ⟨ids, hids⟩ : ∃ ids, ids = idB Ks ds := ⟨_, rfl⟩
    have HMI := Lib.hid (show ∀ x ∈ Ks, KeyId wc x (ids x) by rw [hids]; exact HM.out.id)
    have HBE := Lib.hid (And.intro hB hids)
    have HSW := Lib.hid (HST.out.below HB.out (Nat.le_refl _))
    clear hB hids
    have hS0 : Hid (SetAt Q B w2 g0 (endB Ks ids [] (ss.take 0))) := Lib.hid HG.out.1
    have hO0 : Hid (Outs w2 B (.slice none 0 0) (runB Ks ids [] (ss.take 0))) := Lib.hid ⟨[], World.ownsRow_nil _ _ _ _, rfl, fun r hr => by simp at hr⟩
    have hB2 : Hid (Below B wc w2) := Lib.hid HG.out.2
    go_cut [12] from 63 to 249 (fun u wx => ∃ A n c, u = .slice A n c ∧ Hid (Outs wx B u (runB Ks ids [] ss)) ∧ Hid (Below B wc wx))
    case first =>
      go_wp2_with fail
      go_loopg [11, 12, 63] sn (fun q u11 u12 u63 wr => ∃ (j g : Nat) (OA : Option Addr) (On Oc : Nat), q + j = sn ∧ u11 = .iface 85 (.pointer (some ⟨g, 0, none⟩)) ∧ u63 = .int .i64 (j : Nat) ∧ u12 = .slice OA On Oc ∧ Hid (SetAt Q B wr g (endB Ks ids [] (ss.take j))) ∧ Hid (Outs wr B u12 (runB Ks ids [] (ss.take j))) ∧ Hid (Below B wc wr))
      case atStart => exact ⟨0, g0, none, 0, 0, rfl, rfl, rfl, rfl, hS0, hO0, hB2⟩
      case round =>
        clear hS0 hO0 hB2 HG
        obtain ⟨j, g, OA, On, Oc, hq, rfl, rfl, rfl, HSA, HOU, HBW⟩ := hrel
        by_cases hj : j < sn
        · have hjs : j < ss.length := by rw [← HSN.out]; exact hj
          obtain ⟨s, hs⟩ : ∃ s, s = ss[j] := ⟨_, rfl⟩
          have hwb : B ≤ wr.heap.size := by have := HBW.out.size; rw [HBE.out.1] at *; exact this
          obtain ⟨sad, hA, k0, k1, k2, k3, k4⟩ := (HSW.out.below (HBW.out.mono (Nat.le_of_eq HBE.out.1.symm)) (Nat.le_refl _)).at_ hjs
          subst hA
          rw [← hs] at k0 k1 k2 k3 k4
          have HS := Lib.hid hs
          have HMr := Lib.hid (HM.out.below (w' := wr) (by rw [← HBE.out.1]; exact HBW.out))
          have hji : (j : Int) < (sn : Int) := by omega
          clear hs
          go_upto_region 17 with (fail)
          obtain ⟨wa, hwa⟩ : ∃ wa, wa = ((wr.alloc (.cells #[.int .i64 s.kind, .int .i64 s.key, .int .i64 s.at_, .string s.id, .string s.text] 41)).alloc (.cells #[.bool true, .int .i64 (-1), .int .i64 (-1), .int .i64 0, .slice none 0 0, .slice none 0 0] 34)) := ⟨_, rfl⟩
          have hba : Below wr.heap.size wr wa := by rw [hwa]; exact below_alloc' (below_alloc' (Below.refl _ _) _) _
          have hsa : Blk wa wr.heap.size 41 #[.int .i64 s.kind, .int .i64 s.key, .int .i64 s.at_, .string s.id, .string s.text] := by rw [hwa]; exact (Blk.new wr _ _).alloc _
          have hxa : Blk wa (wr.heap.size + 1) 34 (xC ⟨endB Ks ids [] (ss.take j), true, -1, -1⟩) := by
            rw [hwa]
            have := Blk.new (wr.alloc (.cells #[.int .i64 s.kind, .int .i64 s.key, .int .i64 s.at_, .string s.id, .string s.text] 41)) 34 (xC ⟨endB Ks ids [] (ss.take j), true, -1, -1⟩)
            rwa [World.size_alloc] at this
          rw [← hwa]
          have HA := Lib.hid (And.intro hba (And.intro hsa hxa))
          have HSAa := Lib.hid (HSA.out.below hba)
          have HOUa := Lib.hid (HOU.out.keep (w' := wa) fun j T cs hb _ => hb.below hba hb.lt)
          have HMa := Lib.hid (HMr.out.below hba)
          clear hba hsa hxa hwa k0 k1 k2 k3 k4 HSA HMr
          obtain ⟨S, hSd⟩ : ∃ S, S = endB Ks ids [] (ss.take j) := ⟨_, rfl⟩
          rw [← hSd] at HSAa HA
          have HSU : Hid (Sub Ks S) := Lib.hid (by rw [hSd]; exact endB_sub ⟨List.nodup_nil, fun x hx => by simp at hx⟩)
          have HSD := Lib.hid hSd
          clear hSd
          obtain ⟨kv, hkv, hkl⟩ := HMa.out.2.1
          obtain ⟨KA, kcap, rfl, hkc, _⟩ := hkl.len
          have p0 : wa.cell? ⟨p, 0, none⟩ = some (.slice KA N kcap) := by rw [hkv.cell, ← HL.out]; simp
          have q0 : wa.cell? ⟨wr.heap.size, 0, none⟩ = some (.int .i64 s.kind) := by rw [HA.out.2.1.cell]; rfl
          have q1 : wa.cell? ⟨wr.heap.size, 1, none⟩ = some (.int .i64 s.key) := by rw [HA.out.2.1.cell]; rfl
          clear hkv hkl hkc
          go_cut [16] from 64 to 249 (fun u wx => u = .bool (inKeys Ks s.key) ∧ wx = wa)
          case first =>
            by_cases h1 : 0 ≤ s.key
            · have b1 : decide (0 ≤ s.key) = true := decide_eq_true h1
              by_cases h2 : s.key < (N : Int)
              · go_wp2_with fail
                go_meet
                exact ⟨by unfold inKeys; rw [HL.out]; simp [h1, h2], rfl⟩
              · go_wp2_with fail
                go_meet
                exact ⟨by unfold inKeys; rw [HL.out]; simp [h1, h2], rfl⟩
            · go_wp2_with fail
              go_meet
              refine ⟨?_, rfl⟩
              unfold inKeys
              rw [decide_eq_false (show ¬ 0 ≤ s.key by omega), Bool.false_and]
          case rest =>
            obtain ⟨rfl, hwx⟩ := hcut
            rw [hwx]
            clear hwx
            obtain ⟨at_, hat⟩ : ∃ b, b = inKeys Ks s.key := ⟨_, rfl⟩
            rw [← hat]
            have HAT := Lib.hid hat
            clear hat
            go_upto_block 4 with (fail)
            rename_i KT hKT
            refine sw_all _ _ _ _ _ _ _ _ _ _ _ _ _ _ _ _ _ _ _ _ _ _ _ _ _ _ _ _ _ _ _ _ _ _ _ _ _ _ _ _ _ _ _ _ _ _ _ _ _ _ _ _ _ _ _ _ _ _ _ _ _ _ _ _ _ _ _ _ _ _ _ _ _ _ _ _ _ _ _ _ _ _ _ _ _ _ _ _ _ _ _ _ _ _ _ _ _ _ _ _ _ _ _ _ _ _ _ _ _ _ _ _ _ _ _ _ _ _ _ _ _ _ _ _ _ _ _ _ _ _ _ _ _ _ _ _ _ _ _ _ _ _ _ _ _ _ _ _ _ _ _ _ _ _ _ _ _ _ _ _ _ _ _ _ _ _ _ _ _ _ _ _ _ _ _ _ _ _ _ _ _ _ _ _ _ _ _ _ _ _ _ _ _ _ _ _ _ _ _ _ _ _ _ _ _ _ _ _ _ _ _ _ _ _ _ _ _ _ _ _ _ _ _ _ _ _ _ _ _ _ _ _ _ _ _ _ _ _ _ _ _ _ _ _ _ _ Q B p g wr.heap.size (wr.heap.size + 1) at_ Ks S ids s wa HA.out.2.1 HA.out.2.2 HSAa.out (by omega) (Nat.le_trans hwb HA.out.1.size) HAT.out (p + 1) HMa.out.2.1 (by rw [HBE.out.2]; exact HMa.out.id) HSU.out (by have h1 := HL.out; have h2 := HN.out; omega) ?_ (HQ.out.2.2 s (by rw [HS.out]; exact List.getElem_mem _)) (HQ.out.2.1 s (by rw [HS.out]; exact List.getElem_mem _))
            intro g' wx y17 y18 y19 y20 y21 y22 y64 y65 y66 y67 y68 y69 y70 y71 y72 y73 y74 y75 y76 y77 y78 y79 y80 y81 y82 y83 y84 y85 y86 y87 y88 y89 y90 y91 y92 y93 y94 y95 y96 y97 y98 y99 y100 y101 y102 y103 y104 y105 y106 y107 y108 y109 y110 y111 y112 y113 y114 y115 y116 y117 y118 y119 y120 y121 y122 y123 y124 y125 y126 y127 y128 y129 y130 y131 y132 y133 y134 y135 y136 y137 y138 y139 y140 y141 y142 y143 y144 y145 y146 y147 y148 y149 y150 y151 y152 y153 y154 y155 y156 y157 y158 y159 y160 y161 y162 y163 y164 y165 y166 y167 y168 y169 y170 y171 y172 y173 y174 y175 y176 y177 y178 y179 y180 y181 y182 y183 y184 y185 y186 y187 y188 y189 y190 y191 y192 y193 y194 y195 y196 y197 y198 y199 y200 y201 y202 y203 y204 y205 y206 y207 y208 y209 y210 y211 y212 y213 y214 y215 y216 y217 y218 y219 y220 y221 y222 y223 y224 y225 y226 y227 y228 y229 y230 y231 y232 y233 y234 y235 y236 y237 y238 y239 y240 y241 y242 y243 y244 y245 y246 y247 y248 y249 hw1 hw2 hw3
            have HW := Lib.hid (And.intro hw1 (And.intro hw2 hw3))
            clear hw1 hw2 hw3
            have hwB := (HBW.out.trans (HA.out.1.mono hwb)).trans HW.out.2.2.low
            have HMx := Lib.hid (HM.out.below (w' := wx) (by rw [← HBE.out.1]; exact hwB))
            have HTL := Lib.hid (show OutsR wx B wr.heap.size (.slice OA On Oc) (runB Ks ids [] (ss.take j)) from ⟨wr, rfl, HOU.out, fun k T cs hk hT => HW.out.2.2.keep k T cs (hk.below HA.out.1 hk.lt) (notSK hT) (by have := hk.lt; omega)⟩)
            have hsj : ss[j]? = some s := by rw [List.getElem?_eq_getElem hjs, HS.out]
            have HSJ := Lib.hid hsj
            clear hsj
            refine hKT _ _ ?_
            refine tail1 _ _ _ _ _ _ _ _ _ _ _ _ _ _ _ _ _ _ _ _ _ _ _ _ _ _ _ _ _ _ _ _ _ _ _ _ _ _ _ _ _ _ _ _ _ _ _ _ _ _ _ _ _ _ _ _ _ _ _ _ _ _ _ _ _ _ _ _ _ _ _ _ _ _ _ _ _ _ _ _ _ _ _ _ _ _ _ _ _ _ _ _ _ _ _ _ _ _ _ _ _ _ _ _ _ _ _ _ _ _ _ _ _ _ _ _ _ _ _ _ _ _ _ _ _ _ _ _ _ _ _ _ _ _ _ _ _ _ _ _ _ _ _ _ _ _ _ _ _ _ _ _ _ _ _ _ _ _ _ _ _ _ _ _ _ _ _ _ _ _ _ _ _ _ _ _ _ _ _ _ _ _ _ _ _ _ _ _ _ _ _ _ _ _ _ _ _ _ _ _ _ _ _ _ _ _ _ _ _ _ _ _ _ _ _ _ _ _ _ _ _ _ _ _ _ _ _ _ _ _ _ _ _ _ _ _ _ _ _ _ _ _ _ _ _ _ Q B wr.heap.size p g' wr.heap.size (wr.heap.size + 1) (p + 1) OA On Oc Ks (runB Ks ids [] (ss.take j)) (stB Ks ids S s) wx HQ.out.1 HW.out.2.1 HW.out.1 (by omega) hwb HMx.out.2.1 (HMx.out.keysIn (fun x hx => hx)) (stB_sub HSU.out) (by have h1 := HL.out; have h2 := HN.out; omega) HTL.out (by rw [runB_len, List.length_take]; omega) ?_
            intro OA2 On2 Oc2 wy z23 z24 z25 z216 z217 z218 z219 z220 z221 z222 z223 z224 z225 z226 z227 z228 z229 z230 z231 z232 z233 z234 z235 z236 z237 z238 z239 z240 z241 z242 z243 z244 z245 z246 z247 z248 z249 hy1 hy2 hy3
            have HY := Lib.hid (show SetAt Q B wy g' (endB Ks ids [] (ss.take (j + 1))) ∧ Outs wy B (.slice OA2 On2 Oc2) (runB Ks ids [] (ss.take (j + 1))) ∧ Below B _ wy from by
              rw [HSD.out] at hy1 hy2
              rw [end_snoc HSJ.out] at hy1
              rw [run_snoc HSJ.out] at hy2
              exact ⟨hy1, hy2, hwB.trans hy3⟩)
            clear hy1 hy2 hy3 hwB
            go_wp2_with fail
            go_roundg (sn - (j + 1))
            case measure => omega
            case rel => exact ⟨j + 1, g', OA2, On2, Oc2, by omega, rfl, by go_num, rfl, Lib.hid HY.out.1, Lib.hid HY.out.2.1, Lib.hid HY.out.2.2⟩
        · obtain rfl : j = sn := by omega
          go_wp2_with fail
          go_meet
          exact ⟨OA, On, Oc, rfl, Lib.hid (by have h := HOU.out; rwa [HSN.out, List.take_length] at h), HBW⟩
    case rest =>
      obtain ⟨RA, rn, rc, rfl, HRO, HRB⟩ := hcut
      go_wp2_with fail
      refine bodyPost_ret (v := .slice RA rn rc) (by kernel_rfl) rfl ?_
      exact ⟨B, _, Ks, rfl, HM.out.1, HL.out, by rw [← HBE.out.2]; exact HRO.out, HB.out.trans (HRB.out.mono (by rw [HBE.out.1]; exact HB.out.size)), by rw [HBE.out.1]; exact HB.out.size⟩
end
end Go.Proofs.YtlbnemnadegapaaGreatDoor.Ky
