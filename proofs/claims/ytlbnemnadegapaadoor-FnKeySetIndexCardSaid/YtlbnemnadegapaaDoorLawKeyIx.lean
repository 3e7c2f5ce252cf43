/- The walk of the law FnKeySetIndex; no condition on the IDs, the moves, the index. -/
import Derived.Test.YtlbnemnadegapaaDoorKyAsk
import Derived.Deep.Cut
import Derived.BigRegion
import Derived.Deep.RegionHeld
import Derived.Deep.CutRange
import Derived.Deep.CutBlock
import Derived.Deep.DeepCutAuto
set_option linter.unusedVariables false
set_option linter.unusedSimpArgs false
namespace Go.Proofs.YtlbnemnadegapaaDoor.Ky
open Go.RowKit Go.Proofs.YtlbnemnadegapaaDoor.K Go.Proofs.YtlbnemnadegapaaDoor.Nm
def ixRel (w1 : World) (n : Nat) (ms : List MV) (i k : Nat) (v : Value) (wr : World) : Prop := wr.ownsRow w1.heap.size 56 5 v k (flat sc (ms.map (mvS n) ++ asks ⟨#[]⟩ i)) ∧ Below w1.heap.size w1 wr
theorem cells_new (w : World) (T : TypeId) (cs : List Value) (k : Nat) (u : Value) (h : cs[k]? = some u) : (w.alloc (.cells cs.toArray T)).cell? ((⟨w.heap.size, 0, none⟩ : Addr).add k) = some u := by
  rw [show (⟨w.heap.size, 0, none⟩ : Addr).add k = ⟨w.heap.size, k, none⟩ from by unfold Addr.add; by_cases hk0 : k = 0 <;> simp [hk0], (Blk.new w T cs.toArray).cell k]
  simpa using h
theorem app_low {w1 wr w8 : World} {v : Value} {n size : Nat} {xs : List Value} {T T' : TypeId} {cs : Array Value} (h : wr.ownsRow w1.heap.size T size v n xs) (hb : Below w1.heap.size w1 wr) (hg : (wr.alloc (.cells cs T')).grownBy w8 v.ownBlock) : Below w1.heap.size w1 w8 :=
  (hb.alloc hb.size _).trans (own_low (own_keep h (fun j cs hb' => hb'.alloc _)) hg (by rw [World.size_alloc]; have := hb.size; omega))
theorem sc_two (a b : ST) : ∀ u ∈ sc a ++ sc b, u.oneCell' = true := fun u hu => by
  rcases List.mem_append.1 hu with hu | hu
  · exact sc_one a u hu
  · exact sc_one b u hu
set_option maxRecDepth 100000 in
set_option maxHeartbeats 8000000 in
theorem FnKeySetIndex_calls (w : World) (A0 : Option Addr) (n c0 : Nat) (l0 : List UInt8) (h0 : Reads w 1 A0 n (bys l0)) (A1 : Option Addr) (n1 c1 : Nat) (ms : List MV) (h1 : MVL w A1 n1 ms) (far : Int) (hf : -128 ≤ far ∧ far < 128) :
    Calls Tryd.prog 5 #[.slice A0 n c0, .slice A1 n1 c1, .int .i8 far] w fun e w' => e = .returned (.bool true) ∧ Below w.heap.size w w' := by
  by_cases g0 : 2147483647 < n
  · have k0 : (2147483647 : Int) < (n : Int) := by omega
    go_enter Tryd.func5, Tryd.ntmps5
    go_wp2
    go_ret
    exact ⟨rfl, Below.refl _ _⟩
  have k0 : ¬ (2147483647 : Int) < (n : Int) := by omega
  by_cases g1 : 2147483647 < n1
  · have k1 : (2147483647 : Int) < (n1 : Int) := by omega
    go_enter Tryd.func5, Tryd.ntmps5
    go_wp2
    go_ret
    exact ⟨rfl, Below.refl _ _⟩
  have k1 : ¬ (2147483647 : Int) < (n1 : Int) := by omega
  have HSF := Lib.hid (setFits_calls w A0 A1 n c0 n1 c1)
  by_cases hfit : 0 < n ∧ n ≤ 20 ∧ n1 ≤ 120
  rotate_left
  · rw [decide_eq_false hfit] at HSF
    have HL := Lib.hid (keysLive_calls w)
    go_enter Tryd.func5, Tryd.ntmps5
    go_wp2_with (first
      | (go_at_call 20; (with_reducible refine Calls.mono HSF.out ?_); rintro e w1 ⟨rfl, rfl⟩)
      | (go_at_call 21; (with_reducible refine Calls.mono HL.out ?_); rintro e w1 ⟨rfl, hb⟩; have HB := Lib.hid hb; clear hb))
    go_ret
    exact ⟨rfl, HB.out⟩
  rw [decide_eq_true hfit] at HSF
  obtain ⟨hn0, hn20, hn1⟩ := hfit
  have hml := h1.len
  have HM1 := Lib.hid h1
  have HKD := Lib.hid (keyData_calls w A0 n c0 l0 h0 (by omega))
  obtain ⟨i0, hi, hz0, hz1, hz2⟩ := info_parts infoStep
  have HI := Lib.hid (And.intro hi (And.intro hz0 (And.intro hz1 hz2)))
  have HML := Lib.hid hml
  clear hi hz0 hz1 hz2 h0 h1 g0 g1 hml
  go_enter Tryd.func5, Tryd.ntmps5
  go_wp2_with (first
    | (go_at_call 20; (with_reducible refine Calls.mono HSF.out ?_); rintro e w1 ⟨rfl, rfl⟩)
    | (go_at_call 22; (with_reducible refine Calls.mono HKD.out ?_); rintro e w1 ⟨v, ds, rfl, hown, hkdi, hdl, hdm, hb⟩; obtain ⟨ad, kc1, rfl, hkdl⟩ := hkdi.kdl hown (by omega); rw [hdl] at hkdl; rw [hdl]; have HD := Lib.hid (And.intro hkdl (And.intro hdl hb)); have HSM := Lib.hid (setMoves_calls w1 A1 n1 c1 ms (HM1.out.below hb) (by omega) n hn0 (by omega)); clear hown hkdi hdl hdm hb hkdl)
    | (go_at_call 23; (with_reducible refine Calls.mono HSM.out ?_); rintro e w2 ⟨v, rfl, hm⟩; obtain ⟨OA0, Oc0, rfl⟩ := own_slice hm.1; have HM2 := Lib.hid hm; clear hm))
  have HR0 : Hid (ixRel w1 n ms 0 n1 (.slice OA0 n1 Oc0) w2) := Lib.hid ⟨by have := HM2.out.1; rw [HML.out, List.take_length, ← HML.out] at this; simpa [asks] using this, HM2.out.2⟩
  go_loopg [37, 9] n (fun q u u9 wr => ∃ (i k : Nat) (OA : Option Addr) (Oc : Nat), q + i = n ∧ u = .int .i64 (i : Nat) ∧ u9 = .slice OA k Oc ∧ k = n1 + 2 * i ∧ Hid (ixRel w1 n ms i k u9 wr))
  case atStart => exact ⟨0, n1, OA0, Oc0, rfl, rfl, rfl, rfl, HR0⟩
  case round =>
    obtain ⟨i, k, OA, Oc, hqi, rfl, rfl, hk, HH⟩ := hrel
    clear HR0 HM2
    have HK := Lib.hid hk
    clear hk
    have hk161 : k ≤ 161 := by have := HK.out; omega
    by_cases hi : i < n
    · have hil : (i : Int) < (n : Int) := by omega
      have HOW := Lib.hid (own_keep HH.out.1 (fun j cs hb' => hb'.alloc (.cells #[.int .i64 2, .int .i64 (i : Nat), .int .i64 0, .string ⟨#[]⟩, .string ⟨#[]⟩, .int .i64 3, .int .i64 0, .int .i64 (i : Nat), .string ⟨#[]⟩, .string ⟨#[]⟩] 56)))
      have HCE := Lib.hid (cells_new wr 56 (sc ⟨2, (i : Nat), 0, ⟨#[]⟩, ⟨#[]⟩⟩ ++ sc ⟨3, 0, (i : Nat), ⟨#[]⟩, ⟨#[]⟩⟩))
      have HSZ := Lib.hid (show w1.heap.size ≤ (wr.alloc (.cells #[.int .i64 2, .int .i64 (i : Nat), .int .i64 0, .string ⟨#[]⟩, .string ⟨#[]⟩, .int .i64 3, .int .i64 0, .int .i64 (i : Nat), .string ⟨#[]⟩, .string ⟨#[]⟩] 56)).heap.size from by rw [World.size_alloc]; have := HH.out.2.size; omega)
      go_wp2_with (at_builtin; refine wpList_append_own _ rfl _ _ 53 rfl w1.heap.size 56 i0 zStep 5 56 Tryd.underlying53 HI.out.1 HI.out.2.1 HI.out.2.2.1 HI.out.2.2.2 rfl (by decide) (.slice OA k Oc) k (flat sc (ms.map (mvS n) ++ asks ⟨#[]⟩ i)) rfl HOW.out ⟨wr.heap.size, 0, none⟩ 2 2 (sc ⟨2, (i : Nat), 0, ⟨#[]⟩, ⟨#[]⟩⟩ ++ sc ⟨3, 0, (i : Nat), ⟨#[]⟩, ⟨#[]⟩⟩) rfl rfl HCE.out (sc_two _ _) (by unfold maxLen; omega) (by omega) HSZ.out ?_; intro v2 w8 hown hg8 _; obtain ⟨OA2, Oc2, hv2⟩ := own_slice hown; subst hv2; have HF := Lib.hid (show ixRel w1 n ms (i + 1) (k + 2) (.slice OA2 (k + 2) Oc2) w8 from ⟨by rw [asks_succ, ← List.append_assoc, flat_app]; simpa [flat] using hown, app_low HH.out.1 HH.out.2 hg8⟩); clear hown hg8)
      go_roundg (n - (i + 1))
      case measure => omega
      case rel => exact ⟨i + 1, k + 2, OA2, Oc2, by omega, by go_num, rfl, by have := HK.out; omega, HF⟩
    · have hil : ¬ (i : Int) < (n : Int) := by omega
      have hin : i = n := by omega
      have wf : IntKind.i64.wrap far = far := by rw [IntKind.wrap_i64]; omega
      have HOW := Lib.hid (own_keep HH.out.1 (fun j cs hb' => hb'.alloc (.cells #[.int .i64 3, .int .i64 0, .int .i64 far, .string ⟨#[]⟩, .string ⟨#[]⟩] 56)))
      have HCE := Lib.hid (cells_new wr 56 (sc ⟨3, 0, far, ⟨#[]⟩, ⟨#[]⟩⟩))
      have HSZ := Lib.hid (show w1.heap.size ≤ (wr.alloc (.cells #[.int .i64 3, .int .i64 0, .int .i64 far, .string ⟨#[]⟩, .string ⟨#[]⟩] 56)).heap.size from by rw [World.size_alloc]; have := HH.out.2.size; omega)
      have HIN := Lib.hid hin
      obtain ⟨T, hT⟩ : ∃ T, T = k + 1 := ⟨_, rfl⟩
      have HT := Lib.hid hT
      have HTL : Hid (T = n1 + 2 * n + 1) := Lib.hid (by have := HK.out; omega)
      clear hin hT
      go_wp2_with (first
        | (at_builtin; refine wpList_append_own _ rfl _ _ 53 rfl w1.heap.size 56 i0 zStep 5 56 Tryd.underlying53 HI.out.1 HI.out.2.1 HI.out.2.2.1 HI.out.2.2.2 rfl (by decide) (.slice OA k Oc) k (flat sc (ms.map (mvS n) ++ asks ⟨#[]⟩ i)) rfl HOW.out ⟨wr.heap.size, 0, none⟩ 1 1 (sc ⟨3, 0, far, ⟨#[]⟩, ⟨#[]⟩⟩) rfl rfl HCE.out (sc_one _) (by unfold maxLen; omega) (by omega) HSZ.out ?_; intro v2 w4 hown hg8 _; obtain ⟨OA2, Oc2, hv2⟩ := own_slice hown; subst hv2; rw [← HT.out] at hown ⊢; have hlow := app_low HH.out.1 HH.out.2 hg8; have hstl : STL w4 OA2 T (ixSteps n ms far) := (by have := Reads.of_own hown; rw [HIN.out] at this; unfold ixSteps STL; rw [flat_app]; simpa [flat] using this); have HC := Lib.hid (KeyRun_calls ad n kc1 ds (HD.out.1.below hlow (Nat.le_refl _)) (by rw [HD.out.2.1]; omega) OA2 T Oc2 (ixSteps n ms far) hstl (by rw [ixSteps_len, ← HML.out]; omega) Qp Qp_few (ixSteps_ok n ms HM1.out.2 far).1 (ixSteps_ok n ms HM1.out.2 far).2); have H4 := Lib.hid (HD.out.2.2.trans (hlow.mono HD.out.2.2.size)); clear hown hg8 hlow hstl HOW HCE HSZ)
        | (go_at_call 24; (with_reducible refine Calls.mono HC.out ?_); rintro e w5 ⟨B, v, Ks, rfl, hnd, hkl, hO, hb, hB⟩; obtain ⟨A5, c5, hv, hSN⟩ := hO.read; rw [runB_len, ixSteps_len, ← HML.out, ← HTL.out] at hv hSN; subst hv; have H5 := Lib.hid (H4.out.trans (hb.mono H4.out.size)); have HSN := Lib.hid (And.intro hSN (And.intro hnd hkl)); clear hnd hkl hO hb hB hSN))
      clear HH HK hqi
      have HB5 := Lib.hid (Below.refl w5.heap.size w5)
      go_loopg [63] n (fun q u wv => ∃ i : Nat, q + i = n ∧ u = .int .i64 (i : Nat) ∧ Hid (Below w5.heap.size w5 wv))
      case atStart => exact ⟨0, rfl, rfl, HB5⟩
      case round =>
        obtain ⟨i2, hq2, rfl, HB⟩ := hrel
        clear HB5
        by_cases hi2 : i2 < n
        · have hil2 : (i2 : Int) < (n : Int) := by omega
          obtain ⟨J, hJ⟩ : ∃ J, J = n1 + 2 * i2 := ⟨_, rfl⟩
          have hJT : J + 1 < T := by have := HTL.out; omega
          have hsl := HSN.out.1.len
          obtain ⟨sa, hsa⟩ : ∃ sa, (runB Ks (idB Ks ds) [] (ixSteps n ms far))[J]? = some sa := ⟨_, List.getElem?_eq_getElem (by omega)⟩
          obtain ⟨sb, hsb⟩ : ∃ sb, (runB Ks (idB Ks ds) [] (ixSteps n ms far))[J + 1]? = some sb := ⟨_, List.getElem?_eq_getElem (by omega)⟩
          obtain ⟨ad5, Al, nl, cl, An, nn, nc, hA5, x0, x1, x2, x3, x4, x5, hIa⟩ := (HSN.out.1.below HB.out).get hsa
          obtain ⟨ad6, Bl, ml, dl, Bn, mn, mc_, hA6, y0, y1, y2, y3, y4, y5, hIb⟩ := (HSN.out.1.below HB.out).get hsb
          have hfa := ask_a HSN.out.2.1 HSN.out.2.2 i2 hi2 (by rw [← HML.out, ← hJ]; exact hsa)
          have hfw := ask_few HSN.out.2.1 HSN.out.2.2 hsa
          have hfb := ask_b HSN.out.2.2 i2 hi2 (by rw [← HML.out, ← hJ]; exact hsb)
          subst hA5
          obtain rfl := Option.some.inj hA6
          obtain ⟨oka, ixa, fa, alla⟩ := sa
          obtain ⟨okb, ixb, fb, allb⟩ := sb
          simp only at x0 x1 x2 x3 hIa y0 y1 y2 y3 hIb hfa hfb hfw
          obtain ⟨z, hz⟩ : ∃ z, z = ixI alla (i2 : Nat) := ⟨_, rfl⟩
          rw [← hz] at hfa
          subst hfa
          obtain ⟨la, hla⟩ : ∃ la, la = alla.length := ⟨_, rfl⟩
          obtain ⟨lb, hlb⟩ : ∃ lb, lb = allb.length := ⟨_, rfl⟩
          rw [← hla] at x3
          rw [← hlb] at y3
          obtain rfl : ml = lb := by rw [hlb]; exact hIb.len
          have HIA := Lib.hid (And.intro hIa (And.intro hIb (And.intro hz (And.intro hlb hfb))))
          have HJ := Lib.hid hJ
          have hn100 : nl ≤ 100000 := by have := hIa.len; omega
          have hw1 : (n1 : Int) + 2 * (i2 : Int) = (J : Int) := by omega
          clear hsa hsb hIa hIb hz hlb hfb hla hJ hA6 hsl hfw
          have al : ∀ p v, wr.cell? p = some v → ∀ o, (wr.alloc o).cell? p = some v := fun p v h o => by rw [World.cell?_alloc_some wr p _ (by rw [h]; rfl), h]
          have al2 : ∀ p v, wr.cell? p = some v → ∀ o o', ((wr.alloc o).alloc o').cell? p = some v := fun p v h o o' => by rw [World.cell?_alloc_some (wr.alloc o) p _ (by rw [al p v h]; rfl), al p v h]
          have x0a := al _ _ x0
          have x0b := al2 _ _ x0
          have x1a := al _ _ x1
          have x1b := al2 _ _ x1
          have x2a := al _ _ x2
          have x2b := al2 _ _ x2
          have x3a := al _ _ x3
          have x3b := al2 _ _ x3
          have x4a := al _ _ x4
          have x4b := al2 _ _ x4
          have x5a := al _ _ x5
          have x5b := al2 _ _ x5
          have y0a := al _ _ y0
          have y0b := al2 _ _ y0
          have y1a := al _ _ y1
          have y1b := al2 _ _ y1
          have y2a := al _ _ y2
          have y2b := al2 _ _ y2
          have y3a := al _ _ y3
          have y3b := al2 _ _ y3
          have y4a := al _ _ y4
          have y4b := al2 _ _ y4
          have y5a := al _ _ y5
          have y5b := al2 _ _ y5
          clear al al2
          go_upto_region 20 with (fail)
          go_cut [13, 14] from 66 to 121 (fun u13 u14 wc => ∃ ba bb, u13 = .pointer (some ⟨ba, 0, none⟩) ∧ u14 = .pointer (some ⟨bb, 0, none⟩) ∧ Hid (Blk wc ba 61 #[.bool oka, .int .i64 ixa, .int .i64 fa, .int .i64 la, .slice Al nl cl, .slice An nn nc] ∧ Blk wc bb 61 #[.bool okb, .int .i64 ixb, .int .i64 fb, .int .i64 ml, .slice Bl ml dl, .slice Bn mn mc_] ∧ Below wr.heap.size wr wc))
          case first =>
            go_wp2_with fail
            go_region
            all_goals
              go_wp2_with fail
              go_meet
            · exact ⟨_, _, rfl, rfl, Lib.hid ⟨blk_at2 (by simp [World.size_alloc]) _ _ _, blk_at (by simp [World.size_alloc]) _ _, (below_alloc' (below_alloc' (Below.refl _ _) _) _).drew⟩⟩
            · exact ⟨_, _, rfl, rfl, Lib.hid ⟨blk_at (by simp [World.size_alloc]) _ _, blk_at2 (by simp [World.size_alloc]) _ _ _, (below_alloc' (below_alloc' (Below.refl _ _) _) _).drew⟩⟩
          case rest =>
            obtain ⟨ba, bb, rfl, rfl, HC2⟩ := hcut
            clear x0 x1 x2 x3 x4 x5 y0 y1 y2 y3 y4 y5 x0a x1a x2a x3a x4a x5a y0a y1a y2a y3a y4a y5a x0b x1b x2b x3b x4b x5b y0b y1b y2b y3b y4b y5b
            have p1 : wc.cell? ⟨ba, 1, none⟩ = some (.int .i64 ixa) := by rw [HC2.out.1.cell]; rfl
            have p4 : wc.cell? ⟨ba, 4, none⟩ = some (.slice Al nl cl) := by rw [HC2.out.1.cell]; rfl
            have q0 : wc.cell? ⟨bb, 0, none⟩ = some (.bool okb) := by rw [HC2.out.2.1.cell]; rfl
            have q2 : wc.cell? ⟨bb, 2, none⟩ = some (.int .i64 fb) := by rw [HC2.out.2.1.cell]; rfl
            have q3 : wc.cell? ⟨bb, 3, none⟩ = some (.int .i64 ml) := by rw [HC2.out.2.1.cell]; rfl
            have q4 : wc.cell? ⟨bb, 4, none⟩ = some (.slice Bl ml dl) := by rw [HC2.out.2.1.cell]; rfl
            have HIX := Lib.hid (show ∀ q, Calls Tryd.prog 25 #[.slice Al nl cl, .int .i64 (i2 : Nat)] (wc.drewN q) fun e w' => e = .returned (.int .i64 ixa) ∧ wc.drewN q = w' from fun q => by
              have := IndexI_calls (c := cl) ((HIA.out.1.below HC2.out.2.2).below (below_drewN (Below.refl _ _) q)) hn100 (i2 : Nat)
              rw [← HIA.out.2.2.1] at this
              exact this)
            have HBW := Lib.hid (HB.out.trans (HC2.out.2.2.mono HB.out.size))
            by_cases hib : i2 < ml
            · have hk1 : (i2 : Int) < (ml : Int) := by omega
              obtain rfl : okb = true := by rw [HIA.out.2.2.2.2.1, decide_eq_true (by rw [← HIA.out.2.2.2.1]; exact hib)]
              obtain ⟨ad7, rfl, r0⟩ := (HIA.out.2.1.below HC2.out.2.2).at_ (k := i2) (by rw [← HIA.out.2.2.2.1]; exact hib)
              rw [← HIA.out.2.2.2.2.2 (by rw [← HIA.out.2.2.2.1]; exact hib)] at r0
              go_wp2_with fail
              go_quiet (first | (go_at_call 25; refine (HIX.out _).mono ?_; rintro e w1 ⟨rfl, rfl⟩; exact ⟨rfl, _, rfl⟩))
              go_wp2_with fail
              go_roundg (n - (i2 + 1))
              case measure => omega
              case rel => exact ⟨i2 + 1, by omega, by go_num, Lib.hid (below_drewN HBW.out _)⟩
            · have hk1 : ¬ (i2 : Int) < (ml : Int) := by omega
              obtain rfl : okb = false := by rw [HIA.out.2.2.2.2.1, decide_eq_false (by rw [← HIA.out.2.2.2.1]; exact hib)]
              go_wp2_with fail
              go_quiet (first | (go_at_call 25; refine (HIX.out _).mono ?_; rintro e w1 ⟨rfl, rfl⟩; exact ⟨rfl, _, rfl⟩))
              go_wp2_with fail
              go_roundg (n - (i2 + 1))
              case measure => omega
              case rel => exact ⟨i2 + 1, by omega, by go_num, Lib.hid (below_drewN HBW.out _)⟩
        · have hil2 : ¬ (i2 : Int) < (n : Int) := by omega
          obtain ⟨J, hJ⟩ : ∃ J, J = n1 + 2 * n := ⟨_, rfl⟩
          have hTJ : T = J + 1 := by have := HTL.out; omega
          subst hTJ
          have hsl := HSN.out.1.len
          obtain ⟨st, hst⟩ : ∃ st, (runB Ks (idB Ks ds) [] (ixSteps n ms far))[J]? = some st := ⟨_, List.getElem?_eq_getElem (by omega)⟩
          obtain ⟨ad5, Al, nl, cl, An, nn, nc, hA5, x0, x1, x2, x3, x4, x5, hIa⟩ := (HSN.out.1.below HB.out).get hst
          have hfc := ask_c HSN.out.2.2 (by rw [← HML.out, ← hJ]; exact hst)
          subst hA5
          obtain ⟨okt, ixt, ft, allt⟩ := st
          simp only at x0 x1 x2 x3 hfc
          obtain ⟨lt, hlt⟩ : ∃ lt, lt = allt.length := ⟨_, rfl⟩
          rw [← hlt] at x3 hfc
          have hw2 : IntKind.i64.wrap ((J : Int) + 1 - 1) = (J : Int) := by rw [IntKind.wrap_i64]; omega
          have HLW := Lib.hid ((H5.out.trans (HB.out.mono H5.out.size)).alloc (H5.out.trans (HB.out.mono H5.out.size)).size (.cells #[.bool okt, .int .i64 ixt, .int .i64 ft, .int .i64 lt, .slice Al nl cl, .slice An nn nc] 61))
          have HJ := Lib.hid hJ
          have hJb : J ≤ 160 := by omega
          clear hst hIa hlt hJ hsl
          by_cases hf0 : 0 ≤ far
          · by_cases hf1 : far < (lt : Int)
            · rw [decide_eq_true (show 0 ≤ far ∧ far < (lt : Int) from ⟨hf0, hf1⟩)] at hfc
              subst hfc
              go_wp2_with (go_at_call 21; refine (keysLive_calls _).mono ?_; rintro e w6 ⟨rfl, hb6⟩; have HB6 := Lib.hid (HLW.out.trans (hb6.mono HLW.out.size)); clear hb6)
              go_ret
              exact ⟨rfl, HB6.out⟩
            · rw [decide_eq_false (show ¬ (0 ≤ far ∧ far < (lt : Int)) from fun h => hf1 h.2)] at hfc
              subst hfc
              go_wp2_with (go_at_call 21; refine (keysLive_calls _).mono ?_; rintro e w6 ⟨rfl, hb6⟩; have HB6 := Lib.hid (HLW.out.trans (hb6.mono HLW.out.size)); clear hb6)
              go_ret
              exact ⟨rfl, HB6.out⟩
          · rw [decide_eq_false (show ¬ (0 ≤ far ∧ far < (lt : Int)) from fun h => hf0 h.1)] at hfc
            subst hfc
            go_wp2_with (go_at_call 21; refine (keysLive_calls _).mono ?_; rintro e w6 ⟨rfl, hb6⟩; have HB6 := Lib.hid (HLW.out.trans (hb6.mono HLW.out.size)); clear hb6)
            go_ret
            exact ⟨rfl, HB6.out⟩
end Go.Proofs.YtlbnemnadegapaaDoor.Ky
