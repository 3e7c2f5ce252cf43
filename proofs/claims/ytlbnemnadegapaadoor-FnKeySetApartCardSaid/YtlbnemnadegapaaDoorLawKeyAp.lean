/- The walk of the law FnKeySetApart; no condition on the IDs and the moves. -/
import Derived.Test.YtlbnemnadegapaaDoorKyApart
import Derived.StillTailTactics
import Derived.Deep.RegionHeld
import Derived.Deep.Cut
import Derived.Deep.CutRange
import Derived.Deep.CutBlock
import Derived.Deep.DeepCutAuto
set_option linter.unusedVariables false
set_option linter.unusedSimpArgs false
namespace Go.Proofs.YtlbnemnadegapaaDoor.Ky
open Go.RowKit Go.Proofs.YtlbnemnadegapaaDoor.K Go.Proofs.YtlbnemnadegapaaDoor.Nm
set_option maxRecDepth 100000 in
set_option maxHeartbeats 8000000 in
theorem FnKeySetApart_calls (w : World) (A0 : Option Addr) (n c0 : Nat) (l0 : List UInt8) (h0 : Reads w 1 A0 n (bys l0)) (A1 : Option Addr) (n1 c1 : Nat) (ms : List MV) (h1 : MVL w A1 n1 ms) :
    Calls Tryd.prog 6 #[.slice A0 n c0, .slice A1 n1 c1] w fun e w' => e = .returned (.bool true) ∧ Below w.heap.size w w' := by
  by_cases g0 : 2147483647 < n
  · have k0 : (2147483647 : Int) < (n : Int) := by omega
    go_enter Tryd.func6, Tryd.ntmps6
    go_wp2
    go_ret
    exact ⟨rfl, Below.refl _ _⟩
  have k0 : ¬ (2147483647 : Int) < (n : Int) := by omega
  by_cases g1 : 2147483647 < n1
  · have k1 : (2147483647 : Int) < (n1 : Int) := by omega
    go_enter Tryd.func6, Tryd.ntmps6
    go_wp2
    go_ret
    exact ⟨rfl, Below.refl _ _⟩
  have k1 : ¬ (2147483647 : Int) < (n1 : Int) := by omega
  have HSF := Lib.hid (setFits_calls w A0 A1 n c0 n1 c1)
  by_cases hfit : 0 < n ∧ n ≤ 20 ∧ n1 ≤ 120
  rotate_left
  · rw [decide_eq_false hfit] at HSF
    have HL := Lib.hid (keysLive_calls w)
    go_enter Tryd.func6, Tryd.ntmps6
    go_wp2_with (first
      | (go_at_call 20; (with_reducible refine Calls.mono HSF.out ?_); rintro e w1 ⟨rfl, rfl⟩)
      | (go_at_call 21; (with_reducible refine Calls.mono HL.out ?_); rintro e w1 ⟨rfl, hb⟩; have HB := Lib.hid hb; clear hb))
    go_ret
    exact ⟨rfl, HB.out⟩
  rw [decide_eq_true hfit] at HSF
  obtain ⟨hn0, hn20, hn1⟩ := hfit
  have hml := h1.len
  have HM1 := Lib.hid h1
  have HKD := Lib.hid (keyData_calls w A0 n c0 l0 h0 (by omega))
  obtain ⟨i0, hi, hz0, hz1, hz2⟩ := info_parts infoStep
  have HI := Lib.hid (And.intro hi (And.intro hz0 (And.intro hz1 hz2)))
  have HML := Lib.hid hml
  clear hi hz0 hz1 hz2 h0 h1 g0 g1 hml
  obtain ⟨S0, hS0⟩ : ∃ S0, S0 = ms.map (mvS n) := ⟨_, rfl⟩
  have HS0 := Lib.hid (show S0.length = n1 ∧ (∀ s ∈ S0, (0 ≤ s.kind ∧ s.kind ≤ 8) ∧ (s.kind = 7 → Qp s.id ∧ s.id ≠ nKeys)) ∧ (∀ s ∈ S0, ∃ i : Nat, s.key = (i : Nat) ∧ i < n) from by
    subst hS0
    refine ⟨by rw [List.length_map, ← HML.out], fun s hs => ?_, fun s hs => ?_⟩
    · obtain ⟨m, hm, rfl⟩ := List.mem_map.1 hs
      exact mvS_ok n m (HM1.out.2 m hm)
    · obtain ⟨m, hm, rfl⟩ := List.mem_map.1 hs
      exact mvS_key hn0 m)
  have HSE := Lib.hid hS0
  clear hS0
  go_enter Tryd.func6, Tryd.ntmps6
  go_wp2_with (first
    | (go_at_call 20; (with_reducible refine Calls.mono HSF.out ?_); rintro e w1 ⟨rfl, rfl⟩)
    | (go_at_call 22; (with_reducible refine Calls.mono HKD.out ?_); rintro e w1 ⟨v, ds, rfl, hown, hkdi, hdl, hdm, hb⟩; obtain ⟨ad, kc1, rfl, hkdl⟩ := hkdi.kdl hown (by omega); rw [hdl] at hkdl; rw [hdl]; have HD := Lib.hid (And.intro hkdl (And.intro hdl hb)); have HSM := Lib.hid (setMoves_calls w1 A1 n1 c1 ms (HM1.out.below hb) (by omega) n hn0 (by omega)); clear hown hkdi hdl hdm hb hkdl)
    | (go_at_call 23; (with_reducible refine Calls.mono HSM.out ?_); rintro e w2 ⟨v, rfl, hm⟩; obtain ⟨OA0, Oc0, rfl⟩ := own_slice hm.1; have HM2 := Lib.hid (show STL w2 OA0 n1 S0 ∧ Below w1.heap.size w1 w2 from ⟨by have := Reads.of_own hm.1; rw [HML.out, List.take_length, ← HSE.out] at this; rw [HML.out]; exact this, hm.2⟩); clear hm))
  have HR0 : Hid (apRel w2 ((S0.take 0).filter p5) (((S0.take 0).filter p5).filter p7) (.slice none 0 0) (.slice none 0 0) w2) := Lib.hid ⟨World.ownsRow_nil _ _ _ _, World.ownsRow_nil _ _ _ _, (fun g h => by cases h), Below.refl _ _⟩
  go_loopg [35, 6, 7] n1 (fun q u u6 u7 wr => ∃ (j k6 k7 : Nat) (OA OB : Option Addr) (Oc Od : Nat), q + j = n1 ∧ u = .int .i64 (j : Nat) ∧ u6 = .slice OA k6 Oc ∧ u7 = .slice OB k7 Od ∧ Hid (k6 = ((S0.take j).filter p5).length) ∧ Hid (k7 = (((S0.take j).filter p5).filter p7).length) ∧ Hid (apRel w2 ((S0.take j).filter p5) (((S0.take j).filter p5).filter p7) u6 u7 wr))
  case atStart => exact ⟨0, 0, 0, none, none, 0, 0, rfl, rfl, rfl, rfl, Lib.hid rfl, Lib.hid rfl, HR0⟩
  case round =>
    obtain ⟨j, k6, k7, OA, OB, Oc, Od, hqj, rfl, rfl, rfl, HK6, HK7, HH⟩ := hrel
    clear HR0
    have hk6 : k6 ≤ 120 := by
      have h1 := HK6.out
      have h2 := List.length_filter_le p5 (S0.take j)
      rw [List.length_take] at h2
      have := HS0.out.1
      omega
    have hk7 : k7 ≤ 120 := by
      have h1 := HK7.out
      have h2 := List.length_filter_le p7 ((S0.take j).filter p5)
      rw [← HK6.out] at h2
      omega
    by_cases hj : j < n1
    · have hjl : (j : Int) < (n1 : Int) := by omega
      have hjs : j < S0.length := by rw [HS0.out.1]; exact hj
      obtain ⟨s, hs⟩ : ∃ s, S0[j]? = some s := ⟨_, List.getElem?_eq_getElem hjs⟩
      obtain ⟨sad, hA, b0, b1, b2, b3, b4⟩ := (HM2.out.1.below HH.out.2.2.2 (Nat.le_refl _)).at_ hjs
      have es : S0[j] = s := by rw [List.getElem?_eq_getElem hjs] at hs; injection hs
      rw [es] at b0 b1 b2 b3 b4
      subst hA
      obtain ⟨X, hX⟩ : ∃ X, X = (S0.take j).filter p5 := ⟨_, rfl⟩
      rw [← hX] at HK6 HK7 HH
      have HXE := Lib.hid hX
      clear hX es
      obtain ⟨kd, ky, at_, id, tx⟩ := s
      have HSJ := Lib.hid hs
      clear hs
      simp only at b0 b1 b2 b3 b4
      by_cases h5 : kd = 5
      · subst h5
        have HN := Lib.hid (filter_no (p := p5) HSJ.out rfl)
        go_wp2_with fail
        go_roundg (n1 - (j + 1))
        case measure => omega
        case rel => exact ⟨j + 1, k6, k7, OA, OB, Oc, Od, by omega, by go_num, rfl, rfl, by rw [HN.out, ← HXE.out]; exact HK6, by rw [HN.out, ← HXE.out]; exact HK7, by rw [HN.out, ← HXE.out]; exact Lib.hid (HH.out.alloc _)⟩
      · have h5' : (kd == 5) = false := by simpa using h5
        have HN := Lib.hid (filter_yes (p := p5) HSJ.out (by unfold p5; simpa using h5))
        have HA1 := Lib.hid ((HH.out.alloc (.cells #[.int .i64 kd, .int .i64 ky, .int .i64 at_, .string id, .string tx] 56)).temp kd ky at_ id tx (wr.heap.size + 1) (by simp [World.size_alloc]))
        by_cases h7 : kd < 7
        · have HN7 := Lib.hid (show (X ++ [(⟨kd, ky, at_, id, tx⟩ : ST)]).filter p7 = X.filter p7 ++ [⟨kd, ky, at_, id, tx⟩] from by rw [List.filter_append]; simp [p7, h7])
          go_wp2_with (first
            | (at_builtin; have hgo := HA1.out; clear hgo; refine wpList_append_own_at _ rfl _ _ 53 rfl w2.heap.size 56 i0 zStep 5 56 Tryd.underlying53 HI.out.1 HI.out.2.1 HI.out.2.2.1 HI.out.2.2.2 rfl (by decide) (.slice OA k6 Oc) X.length (flat sc X) rfl HA1.out.1.1 ⟨wr.heap.size + 1, 0, none⟩ 1 1 (sc ⟨kd, ky, at_, id, tx⟩) rfl rfl HA1.out.2.1 (sc_one _) (by have := HK6.out; unfold maxLen; omega) (by have := HK6.out; omega) HA1.out.2.2 ?_; intro v2 w8 hown hg8 _ hat; obtain ⟨OA2, Oc2, hv2⟩ := own_slice hown; rw [← HK6.out] at hv2; subst hv2; have HF := Lib.hid (HA1.out.1.left hown hg8 hat); have hvb := blk_apart ((Blk.new wr 56 #[.int .i64 kd, .int .i64 ky, .int .i64 at_, .string id, .string tx]).alloc (.cells #[.int .i64 kd, .int .i64 ky, .int .i64 at_, .string id, .string tx] 56)) hg8 (fun q => absurd (own_lt HH.out.1 q) (Nat.lt_irrefl _)); have HVB := Lib.hid hvb; have z0 : w8.cell? ⟨wr.heap.size, 0, none⟩ = some (.int .i64 kd) := (by rw [HVB.out.cell]; rfl); have z1 : w8.cell? ⟨wr.heap.size, 1, none⟩ = some (.int .i64 ky) := (by rw [HVB.out.cell]; rfl); have z2 : w8.cell? ⟨wr.heap.size, 2, none⟩ = some (.int .i64 at_) := (by rw [HVB.out.cell]; rfl); have z3 : w8.cell? ⟨wr.heap.size, 3, none⟩ = some (.string id) := (by rw [HVB.out.cell]; rfl); have z4 : w8.cell? ⟨wr.heap.size, 4, none⟩ = some (.string tx) := (by rw [HVB.out.cell]; rfl); have HA2 := Lib.hid (HF.out.temp kd ky at_ id tx (w8.heap.size) (by simp [World.size_alloc])); clear hown hg8 hat hvb HA1)
            | (at_builtin; have hgo := HA2.out; clear hgo; refine wpList_append_own_at _ rfl _ _ 53 rfl w2.heap.size 56 i0 zStep 5 56 Tryd.underlying53 HI.out.1 HI.out.2.1 HI.out.2.2.1 HI.out.2.2.2 rfl (by decide) (.slice OB k7 Od) (X.filter p7).length (flat sc (X.filter p7)) rfl HA2.out.1.2.1 ⟨w8.heap.size, 0, none⟩ 1 1 (sc ⟨kd, ky, at_, id, tx⟩) rfl rfl HA2.out.2.1 (sc_one _) (by have := HK7.out; unfold maxLen; omega) (by have := HK7.out; omega) HA2.out.2.2 ?_; intro v2 w8 hown hg8 _ hat; obtain ⟨OB2, Od2, hv3⟩ := own_slice hown; rw [← HK7.out] at hv3; subst hv3; have HG := Lib.hid (HA2.out.1.right hown hg8 hat); clear hown hg8 hat HA2))
          go_roundg (n1 - (j + 1))
          case measure => omega
          case rel => exact ⟨j + 1, k6 + 1, k7 + 1, OA2, OB2, _, _, by omega, by go_num, rfl, rfl, Lib.hid (by rw [HN.out, ← HXE.out, HK6.out]; simp), Lib.hid (by rw [HN.out, ← HXE.out, HN7.out, HK7.out]; simp), by rw [HN.out, ← HXE.out, HN7.out]; exact HG⟩
        · have HN7 := Lib.hid (show (X ++ [(⟨kd, ky, at_, id, tx⟩ : ST)]).filter p7 = X.filter p7 from by rw [List.filter_append]; simp [p7, h7])
          go_wp2_with (first
            | (at_builtin; have hgo := HA1.out; clear hgo; refine wpList_append_own_at _ rfl _ _ 53 rfl w2.heap.size 56 i0 zStep 5 56 Tryd.underlying53 HI.out.1 HI.out.2.1 HI.out.2.2.1 HI.out.2.2.2 rfl (by decide) (.slice OA k6 Oc) X.length (flat sc X) rfl HA1.out.1.1 ⟨wr.heap.size + 1, 0, none⟩ 1 1 (sc ⟨kd, ky, at_, id, tx⟩) rfl rfl HA1.out.2.1 (sc_one _) (by have := HK6.out; unfold maxLen; omega) (by have := HK6.out; omega) HA1.out.2.2 ?_; intro v2 w8 hown hg8 _ hat; obtain ⟨OA2, Oc2, hv2⟩ := own_slice hown; rw [← HK6.out] at hv2; subst hv2; have HF := Lib.hid (HA1.out.1.left hown hg8 hat); have hvb := blk_apart ((Blk.new wr 56 #[.int .i64 kd, .int .i64 ky, .int .i64 at_, .string id, .string tx]).alloc (.cells #[.int .i64 kd, .int .i64 ky, .int .i64 at_, .string id, .string tx] 56)) hg8 (fun q => absurd (own_lt HH.out.1 q) (Nat.lt_irrefl _)); have HVB := Lib.hid hvb; have z0 : w8.cell? ⟨wr.heap.size, 0, none⟩ = some (.int .i64 kd) := (by rw [HVB.out.cell]; rfl); have z1 : w8.cell? ⟨wr.heap.size, 1, none⟩ = some (.int .i64 ky) := (by rw [HVB.out.cell]; rfl); have z2 : w8.cell? ⟨wr.heap.size, 2, none⟩ = some (.int .i64 at_) := (by rw [HVB.out.cell]; rfl); have z3 : w8.cell? ⟨wr.heap.size, 3, none⟩ = some (.string id) := (by rw [HVB.out.cell]; rfl); have z4 : w8.cell? ⟨wr.heap.size, 4, none⟩ = some (.string tx) := (by rw [HVB.out.cell]; rfl); have HA2 := Lib.hid (HF.out.temp kd ky at_ id tx (w8.heap.size) (by simp [World.size_alloc])); clear hown hg8 hat hvb HA1))
          go_roundg (n1 - (j + 1))
          case measure => omega
          case rel => exact ⟨j + 1, k6 + 1, k7, OA2, OB, _, _, by omega, by go_num, rfl, rfl, Lib.hid (by rw [HN.out, ← HXE.out, HK6.out]; simp), Lib.hid (by rw [HN.out, ← HXE.out, HN7.out, HK7.out]), by rw [HN.out, ← HXE.out, HN7.out]; exact HF⟩
    · have hjl : ¬ (j : Int) < (n1 : Int) := by omega
      have hjn : j = n1 := by omega
      obtain ⟨X, hX⟩ : ∃ X, X = (S0.take j).filter p5 := ⟨_, rfl⟩
      rw [← hX] at HK6 HK7 HH
      have hXS : ∀ s ∈ X, s ∈ S0 := fun s hs => by rw [hX] at hs; exact List.mem_of_mem_take (List.mem_filter.1 hs).1
      have HXS := Lib.hid hXS
      have hlow := HM2.out.2.trans (HH.out.2.2.2.mono HM2.out.2.size)
      have hst6 : STL wr OA k6 X := by rw [HK6.out]; have := Reads.of_own (A := OA) (n := k6) (by have := HH.out.1; rw [← HK6.out] at this; exact this); rw [← HK6.out]; exact this
      have hst7 : STL wr OB k7 (X.filter p7) := Reads.of_own (by have := HH.out.2.1; rw [← HK7.out] at this; exact this)
      have hds20 : ds.length ≤ 20 := by rw [HD.out.2.1]; omega
      have HC1 := Lib.hid (KeyRun_calls ad n kc1 ds (HD.out.1.below hlow (Nat.le_refl _)) hds20 OA k6 Oc X hst6 (by rw [← HK6.out]; omega) Qp Qp_few (fun s hs => (HS0.out.2.1 s (hXS s hs)).1) (fun s hs => (HS0.out.2.1 s (hXS s hs)).2))
      have HW := Lib.hid (And.intro (HD.out.1.below hlow (Nat.le_refl _)) (And.intro hst6 (And.intro hst7 (And.intro hds20 (HD.out.2.2.trans (hlow.mono HD.out.2.2.size))))))
      clear hX hXS hlow hst6 hst7 hds20 hqj HH hjn
      go_wp2_with (first
        | (go_at_call 24; have hg := HC1.out; clear hg; (with_reducible refine Calls.mono HC1.out ?_); rintro e w5 ⟨B5, v, Ks, rfl, hnd, hkl, hO, hb, hB⟩; obtain ⟨A5, c5, hv, hSN⟩ := hO.read; rw [runB_len, ← HK6.out] at hv hSN; subst hv; have HN5 := Lib.hid (And.intro hSN (And.intro hnd (And.intro hkl hb))); have HC2 := Lib.hid (KeyRun_calls ad n kc1 ds (HW.out.1.below hb (Nat.le_refl _)) HW.out.2.2.2.1 OB k7 Od (X.filter p7) (HW.out.2.2.1.below hb (Nat.le_refl _)) (by rw [← HK7.out]; omega) Qp Qp_few (fun s hs => (HS0.out.2.1 s (HXS.out s (List.mem_filter.1 hs).1)).1) (fun s hs => (HS0.out.2.1 s (HXS.out s (List.mem_filter.1 hs).1)).2)); clear hnd hkl hO hb hB hSN HC1)
        | (go_at_call 24; have hg := HC2.out; clear hg; (with_reducible refine Calls.mono HC2.out ?_); rintro e w6 ⟨B6, v, Kt, rfl, hnd, hkl, hO, hb, hB⟩; obtain ⟨A6, c6, hv, hSN⟩ := hO.read; rw [runB_len, ← HK7.out] at hv hSN; subst hv; have HN6 := Lib.hid (And.intro hSN (And.intro hnd (And.intro hkl hb))); clear hnd hkl hO hb hB hSN HC2))
      have HB6 := Lib.hid (Below.refl w6.heap.size w6)
      go_loopg [74, 12] k6 (fun q u u12 wv => ∃ i k : Nat, q + i = k6 ∧ u = .int .i64 (i : Nat) ∧ u12 = .int .i64 (k : Nat) ∧ Hid (k = ((X.take i).filter p7).length) ∧ Hid (Below w6.heap.size w6 wv))
      case atStart => exact ⟨0, 0, rfl, rfl, rfl, Lib.hid rfl, HB6⟩
      case round =>
        obtain ⟨i2, k2, hq2, rfl, rfl, HKK, HB⟩ := hrel
        clear HB6
        have HLW := Lib.hid ((HW.out.2.2.2.2.trans (HN5.out.2.2.2.mono HW.out.2.2.2.2.size)).trans ((HN6.out.2.2.2.mono ((HW.out.2.2.2.2.trans (HN5.out.2.2.2.mono HW.out.2.2.2.2.size)).size)).trans (HB.out.mono ((HW.out.2.2.2.2.trans (HN5.out.2.2.2.mono HW.out.2.2.2.2.size)).trans (HN6.out.2.2.2.mono ((HW.out.2.2.2.2.trans (HN5.out.2.2.2.mono HW.out.2.2.2.2.size)).size))).size)))
        by_cases hi2 : i2 < k6
        · have hil2 : (i2 : Int) < (k6 : Int) := by omega
          have hiX : i2 < X.length := by rw [← HK6.out]; exact hi2
          obtain ⟨s, hs⟩ : ∃ s, X[i2]? = some s := ⟨_, List.getElem?_eq_getElem hiX⟩
          have es : X[i2] = s := by rw [List.getElem?_eq_getElem hiX] at hs; injection hs
          obtain ⟨sad, hA, b0, b1, b2, b3, b4⟩ := ((HW.out.2.1.below HN5.out.2.2.2 (Nat.le_refl _)).below (HN6.out.2.2.2.trans (HB.out.mono HN6.out.2.2.2.size)) (Nat.le_refl _)).at_ hiX
          rw [es] at b0 b1 b2 b3 b4
          subst hA
          obtain ⟨kd, ky, at_, id, tx⟩ := s
          have HSJ := Lib.hid (And.intro hs es)
          clear hs es
          simp only at b0 b1 b2 b3 b4
          by_cases h7 : kd < 7
          · have h7' : ¬ 7 ≤ kd := by omega
            have hp7 : p7 X[i2] = true := by rw [HSJ.out.2]; unfold p7; simpa using h7
            have hkk := ap_same (ds := ds) HN5.out.2.1 HN6.out.2.1 HN5.out.2.2.1 HN6.out.2.2.1 (fun s hs => HS0.out.2.2 s (HXS.out s hs)) i2 hiX hp7
            rw [← HKK.out] at hkk
            obtain ⟨sa, hsa⟩ : ∃ sa, (runB Ks (idB Ks ds) [] X)[i2]? = some sa := ⟨_, List.getElem?_eq_getElem (by rw [runB_len]; exact hiX)⟩
            rw [hsa] at hkk
            have hk2 : k2 < k7 := by
              have := (List.getElem?_eq_some_iff.1 hkk).1
              rw [runB_len, ← HK7.out] at this
              exact this
            have hkl2 : (k2 : Int) < (k7 : Int) := by omega
            have hfw := ask_few HN5.out.2.1 HN5.out.2.2.1 hsa
            obtain ⟨ad5, Al, nl, cl, An, nn, nc, hA5, x0, x1, x2, x3, x4, x5, hIa⟩ := (HN5.out.1.below (HN6.out.2.2.2.trans (HB.out.mono HN6.out.2.2.2.size))).get hsa
            obtain ⟨ad6, Bl, ml, dl, Bn, mn, mc_, hA6, y0, y1, y2, y3, y4, y5, hIb⟩ := (HN6.out.1.below HB.out).get hkk
            subst hA5
            subst hA6
            have HSS := Lib.hid (show ∀ W, Below wr.heap.size wr W → _ from fun W hW => sameSeen_calls (w := W) sa (by omega) (N1 := An) (N2 := Bn) (c1 := cl) (c2 := dl) (m1 := nn) (d1 := nc) (m2 := mn) (d2 := mc_) (hIa.below hW) (hIb.below hW))
            obtain ⟨wv, hwv⟩ : ∃ wv, wv = wr.alloc (.cells #[.int .i64 kd, .int .i64 ky, .int .i64 at_, .string id, .string tx] 56) := ⟨_, rfl⟩
            have hbv : Below wr.heap.size wr wv := by rw [hwv]; exact below_alloc' (Below.refl _ _) _
            have al : ∀ p v, wr.cell? p = some v → wv.cell? p = some v := fun p v h => by rw [hwv, World.cell?_alloc_some wr p _ (by rw [h]; rfl), h]
            have x0a := al _ _ x0
            have x1a := al _ _ x1
            have x2a := al _ _ x2
            have x3a := al _ _ x3
            have x4a := al _ _ x4
            have x5a := al _ _ x5
            have y0a := al _ _ y0
            have y1a := al _ _ y1
            have y2a := al _ _ y2
            have y3a := al _ _ y3
            have y4a := al _ _ y4
            have y5a := al _ _ y5
            clear al hIa hIb hfw hkk hsa hp7
            have HN7 := Lib.hid (filter_yes (p := p7) HSJ.out.1 (by unfold p7; simpa using h7))
            have HBV := Lib.hid hbv
            clear hbv
            have HS2 := Lib.hid (HSS.out wv.drew HBV.out.drew)
            go_upto_region 23 with (fail)
            rw [← hwv]
            clear hwv x0 x1 x2 x3 x4 x5 y0 y1 y2 y3 y4 y5 b0 b1 b2 b3 b4
            go_still_tail 8, (by kernel_rfl)
            change wpList _ _ _ _ _ wv.drew
            go_wp2_with (go_at_call 26; refine Calls.mono HS2.out ?_; rintro e w7 ⟨rfl, hb7⟩; have HB7 := Lib.hid ((HB.out.trans (HBV.out.drew.mono HB.out.size)).trans (hb7.mono (HB.out.trans (HBV.out.drew.mono HB.out.size)).size)); clear hb7)
            go_roundg (k6 - (i2 + 1))
            case measure => omega
            case rel => exact ⟨i2 + 1, k2 + 1, by omega, by go_num, by go_num, Lib.hid (by rw [HN7.out, List.length_append, ← HKK.out]; rfl), HB7⟩
          · have h7' : 7 ≤ kd := by omega
            have HN7 := Lib.hid (filter_no (p := p7) HSJ.out.1 (by unfold p7; simpa using h7))
            go_wp2_with fail
            go_roundg (k6 - (i2 + 1))
            case measure => omega
            case rel => exact ⟨i2 + 1, k2, by omega, by go_num, rfl, Lib.hid (by rw [HN7.out]; exact HKK.out), Lib.hid (HB.out.alloc HB.out.size _)⟩
        · have hil2 : ¬ (i2 : Int) < (k6 : Int) := by omega
          go_wp2_with (go_at_call 21; refine (keysLive_calls _).mono ?_; rintro e w7 ⟨rfl, hb7⟩; have HB7 := Lib.hid (HLW.out.trans (hb7.mono HLW.out.size)); clear hb7)
          go_ret
          exact ⟨rfl, HB7.out⟩
end Go.Proofs.YtlbnemnadegapaaDoor.Ky
