/- The reference of a key set: spec.KeyRun walks. -/
import Derived.Test.YtlbnemnadegapaaGreatDoorKySpec0
import Derived.Test.YtlbnemnadegapaaGreatDoorKyMv
import Derived.Deep.Cut
import Derived.Deep.CutRange
import Derived.Deep.CutBlock
import Derived.Deep.DeepCutAuto
set_option linter.unusedVariables false
set_option linter.unusedSimpArgs false
namespace Go.Proofs.YtlbnemnadegapaaGreatDoor.Ky
open Go.RowKit Go.Proofs.YtlbnemnadegapaaGreatDoor.K Go.Proofs.YtlbnemnadegapaaGreatDoor.Nm
section
variable {w w' : World}
set_option maxRecDepth 100000 in
set_option maxHeartbeats 8000000 in
theorem specRun_calls (ad : Addr) (n c : Nat) (ds : List KD) (hD : KDL w (some ad) n ds) (hn : n ≤ 20) (SA : Option Addr) (sn SC : Nat) (ss : List ST) (hS : STL w SA sn ss) (hsl : ss.length ≤ 100) (hk6 : ∀ s ∈ ss, 0 ≤ s.kind ∧ s.kind < 6) (hkey : ∀ s ∈ ss, ∃ i : Nat, s.key = (i : Nat) ∧ i < n) (hids : ∀ s ∈ ss, s.id.size = 1) :
    Calls Tryz.prog 9 #[.slice (some ad) n c, .slice SA sn SC] w fun e w' => ∃ B v, e = .returned v ∧ Outs w' B v (runS (Hd ds) [] ss) ∧ Below w.heap.size w w' ∧ w.heap.size ≤ B := by
  obtain ⟨i0, hi, hz0, hz1, hz2⟩ := info_parts infoSeen
  have HI := Lib.hid (And.intro hi (And.intro hz0 (And.intro hz1 hz2)))
  obtain ⟨w1, hw1⟩ : ∃ w1, w1 = w.alloc (.cells #[.slice (some ad) n c] 25) := ⟨_, rfl⟩
  have hb1 : Below w.heap.size w w1 := by rw [hw1]; exact below_alloc' (Below.refl _ _) _
  have HBX := Lib.hid (show Blk w1 w.heap.size 25 #[.slice (some ad) n c] from by rw [hw1]; exact Blk.new w _ _)
  have HD := Lib.hid (And.intro (hD.below hb1 (Nat.le_refl _)) (And.intro (hS.below hb1 (Nat.le_refl _)) hb1))
  have HSS := Lib.hid (And.intro hk6 (And.intro hkey (And.intro hids hsl)))
  have HSN := Lib.hid hS.len
  clear hb1 hD hS hk6 hkey hids hi hz0 hz1 hz2
  go_enter Tryz.func9, Tryz.ntmps9
  go_wp2_with fail
  rw [← hw1]
  clear hw1
  obtain ⟨B, hB⟩ : ∃ B, B = w1.heap.size := ⟨_, rfl⟩
  have HBE := Lib.hid hB
  have HO0 : Hid (Outs w1 B (.slice none 0 0) (runS (Hd ds) [] (ss.take 0))) := Lib.hid ⟨[], World.ownsRow_nil _ _ _ _, rfl, fun r hr => by simp at hr⟩
  have HK0 : Hid (KL w1 B 3 (.slice none 0 0) ((endS (Hd ds) [] (ss.take 0)).map (Value.int .i64))) := Lib.hid (KL.nil _ _ _)
  have HB0 : Hid (Below B w1 w1) := Lib.hid (by rw [hB]; exact Below.refl _ _)
  clear hB
  go_loopg [15, 5, 6, 7] sn (fun q u u5 u6 u7 wr => ∃ (j : Nat) (OA : Option Addr) (On Oc : Nat) (ZA : Option Addr) (Zn Zc : Nat), q + j = sn ∧ u = .int .i64 (j : Nat) ∧ u5 = .slice OA On Oc ∧ u6 = .slice ZA Zn Zc ∧ u7 = .slice none 0 0 ∧ Hid (Outs wr B u5 (runS (Hd ds) [] (ss.take j))) ∧ Hid (KL wr B 3 u6 ((endS (Hd ds) [] (ss.take j)).map (Value.int .i64))) ∧ Hid (Below B w1 wr))
  case atStart => exact ⟨0, none, 0, 0, none, 0, 0, rfl, rfl, rfl, rfl, rfl, HO0, HK0, HB0⟩
  case round =>
    obtain ⟨j, OA, On, Oc, ZA, Zn, Zc, hqj, rfl, rfl, rfl, rfl, HOU, HKL, HB⟩ := hrel
    clear HO0 HK0 HB0
    by_cases hj : j < sn
    · have hjl : (j : Int) < (sn : Int) := by omega
      have hjs : j < ss.length := by rw [← HSN.out]; exact hj
      obtain ⟨s, hs⟩ : ∃ s, ss[j]? = some s := ⟨_, List.getElem?_eq_getElem hjs⟩
      have es : ss[j] = s := by rw [List.getElem?_eq_getElem hjs] at hs; injection hs
      obtain ⟨sad, hA, b0, b1, b2, b3, b4⟩ := (HD.out.2.1.below (by rw [← HBE.out]; exact HB.out) (Nat.le_refl _)).at_ hjs
      rw [es] at b0 b1 b2 b3 b4
      subst hA
      obtain ⟨Z, hZ⟩ : ∃ Z, Z = endS (Hd ds) [] (ss.take j) := ⟨_, rfl⟩
      rw [← hZ] at HKL
      have hms : s ∈ ss := List.mem_of_getElem? hs
      have HZ := Lib.hid (show InN n Z ∧ Z.length ≤ 100 from by
        rw [hZ]
        refine ⟨endS_in (fun z hz => by simp at hz) (fun s hs => HSS.out.2.1 s (List.mem_of_mem_take hs)), ?_⟩
        have := endS_len (H := Hd ds) (ss := ss.take j) (Z := [])
        rw [List.length_take] at this
        simp at this
        have := HSS.out.2.2.2
        omega)
      have HSJ := Lib.hid (And.intro hs (And.intro hZ hms))
      clear hs hZ hms es
      obtain ⟨wv, hwv⟩ : ∃ wv, wv = (wr.alloc (.cells #[.int .i64 s.kind, .int .i64 s.key, .int .i64 s.at_, .string s.id, .string s.text] 41)).alloc (.cells #[.bool true, .int .i64 (-1), .int .i64 (-1), .int .i64 0, .slice none 0 0, .slice none 0 0] 34) := ⟨_, rfl⟩
      have HBV := Lib.hid (show Below wr.heap.size wr wv from by rw [hwv]; exact below_alloc' (below_alloc' (Below.refl _ _) _) _)
      have HSV := Lib.hid (show Blk wv wr.heap.size 41 #[.int .i64 s.kind, .int .i64 s.key, .int .i64 s.at_, .string s.id, .string s.text] from by rw [hwv]; exact (Blk.new wr _ _).alloc _)
      have HXV := Lib.hid (show Blk wv (wr.heap.size + 1) 34 #[.bool true, .int .i64 (-1), .int .i64 (-1), .int .i64 0, .slice none 0 0, .slice none 0 0] from by
        rw [hwv]
        have := Blk.new (wr.alloc (.cells #[.int .i64 s.kind, .int .i64 s.key, .int .i64 s.at_, .string s.id, .string s.text] 41)) 34 #[.bool true, .int .i64 (-1), .int .i64 (-1), .int .i64 0, .slice none 0 0, .slice none 0 0]
        rwa [World.size_alloc] at this)
      have HKV := Lib.hid (KL.below HKL.out HBV.out)
      have HWB : Hid (B ≤ wr.heap.size) := Lib.hid (by have := HB.out.size; rw [← HBE.out] at this; exact this)
      obtain ⟨ZA1, Zc1, hzv, hzc, _⟩ := HKV.out.len
      rw [List.length_map] at hzv
      injection hzv with e1 e2 e3
      subst e1; subst e2; subst e3
      have HIL := Lib.hid (show IL wv ZA Z.length Z from (KL.reads HKV.out).1)
      have q0 : wv.cell? ⟨wr.heap.size, 0, none⟩ = some (.int .i64 s.kind) := by rw [HSV.out.cell]; rfl
      have q1 : wv.cell? ⟨wr.heap.size, 1, none⟩ = some (.int .i64 s.key) := by rw [HSV.out.cell]; rfl
      have q2 : wv.cell? ⟨wr.heap.size, 2, none⟩ = some (.int .i64 s.at_) := by rw [HSV.out.cell]; rfl
      have x0 : wv.cell? ⟨wr.heap.size + 1, 0, none⟩ = some (.bool true) := by rw [HXV.out.cell]; rfl
      have x1 : wv.cell? ⟨wr.heap.size + 1, 1, none⟩ = some (.int .i64 (-1)) := by rw [HXV.out.cell]; rfl
      have x2 : wv.cell? ⟨wr.heap.size + 1, 2, none⟩ = some (.int .i64 (-1)) := by rw [HXV.out.cell]; rfl
      have x0f := HXV.out.frozen 0
      have x1f := HXV.out.frozen 1
      have x2f := HXV.out.frozen 2
      obtain ⟨at_, hat⟩ : ∃ a, a = ixI Z s.key := ⟨_, rfl⟩
      have HAT := Lib.hid hat
      have HIX := Lib.hid (show Calls Tryz.prog 16 #[.slice ZA Z.length Zc, .int .i64 s.key] wv fun e w' => e = .returned (.int .i64 at_) ∧ wv = w' from by rw [hat]; exact IndexI_calls HIL.out (by have := HZ.out.2; omega) s.key)
      clear hat
      go_upto_region 8 with (fail)
      rw [← hwv]
      clear hwv b0 b1 b2 b3 b4
      go_upto_block 2 with (go_at_call 16; (with_reducible refine Calls.mono HIX.out ?_); rintro e w3 ⟨rfl, rfl⟩)
      go_cut [6, 7, 12] from 26 to 112 (fun u6 u7 u12 wc => ∃ (A' : Option Addr) (n' c' : Nat), u6 = .slice A' n' c' ∧ u7 = .slice none 0 0 ∧ Hid (Blk wc (wr.heap.size + 1) 34 #[.bool (spB (Hd ds) Z s).ok, .int .i64 (spB (Hd ds) Z s).idx, .int .i64 (spB (Hd ds) Z s).fnd, .int .i64 0, .slice none 0 0, .slice none 0 0]) ∧ Hid (KL wc B 3 u6 ((spB (Hd ds) Z s).Z.map (Value.int .i64))) ∧ Hid (Below wr.heap.size wr wc))
      case first =>
        have hk06 := HSS.out.1 s HSJ.out.2.2
        have hk : s.kind = 0 ∨ s.kind = 1 ∨ s.kind = 2 ∨ s.kind = 3 ∨ s.kind = 4 ∨ s.kind = 5 := by omega
        clear hk06
        rcases hk with hk | hk | hk | hk | hk | hk
        · have hb0 : (s.kind == 0) = true := by rw [hk]; rfl
          have hb1 : (s.kind == 1) = false := by rw [hk]; rfl
          have hb2 : (s.kind == 2) = false := by rw [hk]; rfl
          have hb3 : (s.kind == 3) = false := by rw [hk]; rfl
          have hb4 : (s.kind == 4) = false := by rw [hk]; rfl
          have hb5 : (s.kind == 5) = false := by rw [hk]; rfl
          have hb7 : (s.kind == 7) = false := by rw [hk]; rfl
          have hb8 : (s.kind == 8) = false := by rw [hk]; rfl
          by_cases hm : s.key ∈ Z
          · obtain ⟨jj, hj1, hj2, hj3⟩ := ixI_mem hm
            obtain rfl : at_ = (jj : Nat) := by rw [HAT.out, hj3]
            have hna : ¬ ((jj : Nat) : Int) < 0 := by omega
            have hst : spB (Hd ds) Z s = ⟨Z, false, -1, -1⟩ := by unfold spB; simp [hk, hm]
            clear hm hj1 hj2 hj3
            have HST := Lib.hid hst
            clear hst hk
            go_wp2_with fail
            go_meet
            have hst := HST.out
            exact ⟨_, _, _, rfl, rfl, Lib.hid (by rw [hst]; exact HXV.out.set_ 0 _), Lib.hid (by rw [hst]; exact HKV.out.setCell HXV.out (by decide) _), Lib.hid (HBV.out.setCell (by show wr.heap.size ≤ wr.heap.size + 1; omega) _)⟩
          · have hat : at_ = -1 := by rw [HAT.out, ixI_neg hm]
            subst hat
            have hst : spB (Hd ds) Z s = ⟨Z ++ [s.key], true, -1, -1⟩ := by unfold spB; simp [hk, hm]
            obtain ⟨Wx, hWx⟩ : ∃ Wx, Wx = (wv.setCell ⟨wr.heap.size + 1, 0, none⟩ (.bool true)) := ⟨_, rfl⟩
            have HBW := Lib.hid (show Below wr.heap.size wr Wx from by rw [hWx]; exact HBV.out.setCell (by show wr.heap.size ≤ wr.heap.size + 1; omega) _)
            have HSW := Lib.hid (show Blk Wx.drew wr.heap.size 41 #[.int .i64 s.kind, .int .i64 s.key, .int .i64 s.at_, .string s.id, .string s.text] from by rw [hWx]; exact HSV.out.far (p := ⟨wr.heap.size + 1, 0, none⟩) (by show wr.heap.size ≠ wr.heap.size + 1; omega) _)
            have HXW := Lib.hid (show Blk Wx.drew (wr.heap.size + 1) 34 #[.bool true, .int .i64 (-1), .int .i64 (-1), .int .i64 0, .slice none 0 0, .slice none 0 0] from by rw [hWx]; exact HXV.out.set_ 0 _)
            have HKW := Lib.hid (show KL Wx.drew B 3 (.slice ZA Z.length Zc) (Z.map (Value.int .i64)) from by rw [hWx]; exact (HKV.out.setCell HXV.out (by decide) _).drew)
            have HC1 := Lib.hid (CloneI_calls ZA Z.length Zc Z HKW.out (by have := HZ.out.2; omega))
            have HC2 := Lib.hid (CloneI_calls (w := (Wx.alloc (.cells #[.int .i64 s.key] 3)).drew) ZA Z.length Zc Z (HKW.out.alloc _) (by have := HZ.out.2; omega))
            have y1 : Wx.drew.cell? ⟨wr.heap.size, 1, none⟩ = some (.int .i64 s.key) := by rw [HSW.out.cell]; rfl
            have HST := Lib.hid hst
            clear hst hk hm
            go_upto_region 13 with (fail)
            rw [← hWx]
            clear hWx q0 q1 q2 x0 x1 x2 x0f x1f x2f
            go_region_law (first
              | (have hg := HR1.out; clear hg; refine step_append_run rfl (.tmp 34) (.tmp 37) 31 rfl _ _ (by simp [Act.eval, Act.put]) (by simp [Act.eval, Act.put]) HR1.out ?_)
              | (have hg := HC2.out; clear hg; rw [if_pos (by rfl)]; go_simp; go_at_call 17; (with_reducible refine Calls.mono HC2.out ?_); rintro e w4 ⟨A4, c4, rfl, hk4, hb4⟩; have hb5 := HBW.out.drew.trans (((below_alloc' (Below.refl _ _) (.cells #[.int .i64 s.key] 3)).trans (hb4.mono (by simp [World.size_alloc]))).mono HBW.out.drew.size); obtain ⟨A7, n7, c7, w7, hrun, hk7, hb7⟩ := app_int hk4 s.key ⟨Wx.heap.size, 0, none⟩ ((show Blk w4 Wx.heap.size 3 #[.int .i64 s.key] from (Blk.new Wx.drew 3 #[.int .i64 s.key]).below hb4 (Blk.new Wx.drew 3 #[.int .i64 s.key]).lt).cell 0) (by have := HZ.out.2; omega) hb4.size; have HR1 := Lib.hid hrun; have HF := Lib.hid (show KL w7 B 3 (.slice A7 n7 c7) ((Z ++ [s.key]).map (Value.int .i64)) ∧ Below wr.heap.size wr w7 from ⟨KL.base hk7 (Nat.le_trans HWB.out (Nat.le_trans HBW.out.size (by simp [World.size_alloc]))), hb5.trans (hb7.mono (Nat.le_trans HBW.out.size (by simp [World.size_alloc])))⟩); have HXF := Lib.hid ((HXW.out.below (((below_alloc' (Below.refl _ _) (.cells #[.int .i64 s.key] 3)).trans (hb4.mono (by simp [World.size_alloc]))).trans (hb7.mono (by simp [World.size_alloc]))) HXW.out.lt)); clear hk4 hb4 hb5 hrun hk7 hb7)
              | (have hg := HC1.out; clear hg; rw [if_pos (by rfl)]; go_simp; go_at_call 17; (with_reducible refine Calls.mono HC1.out ?_); rintro e w4 ⟨A4, c4, rfl, hk4, hb4⟩; have y4 : w4.cell? ⟨wr.heap.size, 1, none⟩ = some (.int .i64 s.key) := (by rw [(HSW.out.below hb4 HSW.out.lt).cell]; rfl); have hb5 := HBW.out.drew.trans ((hb4.trans ((below_alloc' (Below.refl _ _) (.cells #[.int .i64 s.key] 3)).mono hb4.size)).mono HBW.out.drew.size); obtain ⟨A7, n7, c7, w7, hrun, hk7, hb7⟩ := app_int (hk4.alloc (.cells #[.int .i64 s.key] 3)) s.key ⟨w4.heap.size, 0, none⟩ (by rw [(Blk.new w4 3 #[.int .i64 s.key]).cell]; rfl) (by have := HZ.out.2; omega) (by rw [World.size_alloc]; have := hb4.size; omega); have HR1 := Lib.hid hrun; have HF := Lib.hid (show KL w7 B 3 (.slice A7 n7 c7) ((Z ++ [s.key]).map (Value.int .i64)) ∧ Below wr.heap.size wr w7 from ⟨KL.base hk7 (Nat.le_trans HWB.out HBW.out.size), hb5.trans (hb7.mono HBW.out.size)⟩); have HXF := Lib.hid ((HXW.out.below ((hb4.trans ((below_alloc' (Below.refl _ _) (.cells #[.int .i64 s.key] 3)).mono hb4.size)).trans (hb7)) HXW.out.lt)); clear hk4 hb4 hb5 hrun hk7 hb7))
            all_goals
              go_wp2_with fail
              go_meet
              have hst := HST.out
              exact ⟨_, _, _, rfl, rfl, Lib.hid (by rw [hst]; exact HXF.out), Lib.hid (by rw [hst]; exact HF.out.1), Lib.hid HF.out.2⟩
        · have hb0 : (s.kind == 0) = false := by rw [hk]; rfl
          have hb1 : (s.kind == 1) = true := by rw [hk]; rfl
          have hb2 : (s.kind == 2) = false := by rw [hk]; rfl
          have hb3 : (s.kind == 3) = false := by rw [hk]; rfl
          have hb4 : (s.kind == 4) = false := by rw [hk]; rfl
          have hb5 : (s.kind == 5) = false := by rw [hk]; rfl
          have hb7 : (s.kind == 7) = false := by rw [hk]; rfl
          have hb8 : (s.kind == 8) = false := by rw [hk]; rfl
          by_cases hm : s.key ∈ Z
          · obtain ⟨jj, hj1, hj2, hj3⟩ := ixI_mem hm
            obtain rfl : at_ = (jj : Nat) := by rw [HAT.out, hj3]
            have hst : spB (Hd ds) Z s = ⟨Z.eraseIdx jj, true, -1, -1⟩ := by unfold spB; simp [hk, hm, hj1]
            have hpa : (0 : Int) ≤ (jj : Nat) := by omega
            have hlz := HZ.out.2
            have hw1 : IntKind.i64.wrap ((jj : Int) + 1) = (jj : Int) + 1 := wrap_small _ (by omega) (by omega)
            have HC1 := Lib.hid (CloneI_calls (w := (wv.setCell ⟨wr.heap.size + 1, 0, none⟩ (.bool true))) ZA Z.length Zc Z (HKV.out.setCell HXV.out (by decide) _) (by omega))
            have HXW := Lib.hid (HXV.out.set_ 0 (.bool true))
            have HBW := Lib.hid (show Below wr.heap.size wr (wv.setCell ⟨wr.heap.size + 1, 0, none⟩ (.bool true)) from HBV.out.setCell (by show wr.heap.size ≤ wr.heap.size + 1; omega) (.bool true))
            have HST := Lib.hid hst
            have HJJ := Lib.hid hj2
            clear hst hk hm hj1 hj3 hj2
            go_wp2_with (first
              | (go_at_call 17; (with_reducible refine Calls.mono HC1.out ?_); rintro e w4 ⟨A4, c4, rfl, hk4, hb4⟩; obtain ⟨g4, o4, rfl⟩ := hk4.some_ (by rw [List.length_map]; have := HJJ.out; omega); have HB4 := Lib.hid (And.intro hb4 (HBW.out.trans (hb4.mono HBW.out.size))); have HX4 := Lib.hid (HXW.out.below hb4 HXW.out.lt); have HDL := Lib.hid (DeleteI_calls hk4 jj HJJ.out hb4.size); clear hk4 hb4)
              | (go_at_call 18; (with_reducible refine Calls.mono HDL.out ?_); rintro e w5 ⟨rfl, hk5, hb5⟩; have HF := Lib.hid (And.intro hk5 hb5); clear hk5 hb5))
            go_meet
            have hst := HST.out
            exact ⟨_, _, _, rfl, rfl, Lib.hid (by rw [hst]; exact HX4.out.below HF.out.2 (by have := HXW.out.lt; exact this)), Lib.hid (by rw [hst]; exact KL.base HF.out.1 (Nat.le_trans HWB.out HBW.out.size)), Lib.hid (HB4.out.2.trans (HF.out.2.mono HBW.out.size))⟩
          · have hat : at_ = -1 := by rw [HAT.out, ixI_neg hm]
            subst hat
            have hst : spB (Hd ds) Z s = ⟨Z, false, -1, -1⟩ := by
              have hf : Z.findIdx? (· == s.key) = none := List.findIdx?_eq_none_iff.2 (fun x hx => by simp; rintro rfl; exact hm hx)
              unfold spB; simp [hk, hm, hf]
            have HST := Lib.hid hst
            clear hst hk hm
            go_wp2_with fail
            go_meet
            have hst := HST.out
            exact ⟨_, _, _, rfl, rfl, Lib.hid (by rw [hst]; exact HXV.out.set_ 0 _), Lib.hid (by rw [hst]; exact HKV.out.setCell HXV.out (by decide) _), Lib.hid (HBV.out.setCell (by show wr.heap.size ≤ wr.heap.size + 1; omega) _)⟩
        · have hb0 : (s.kind == 0) = false := by rw [hk]; rfl
          have hb1 : (s.kind == 1) = false := by rw [hk]; rfl
          have hb2 : (s.kind == 2) = true := by rw [hk]; rfl
          have hb3 : (s.kind == 3) = false := by rw [hk]; rfl
          have hb4 : (s.kind == 4) = false := by rw [hk]; rfl
          have hb5 : (s.kind == 5) = false := by rw [hk]; rfl
          have hb7 : (s.kind == 7) = false := by rw [hk]; rfl
          have hb8 : (s.kind == 8) = false := by rw [hk]; rfl
          have hst : spB (Hd ds) Z s = ⟨Z, true, at_, -1⟩ := by unfold spB; rw [HAT.out]; simp [hk]
          have HST := Lib.hid hst
          clear hst hk
          go_wp2_with fail
          go_meet
          have hst := HST.out
          exact ⟨_, _, _, rfl, rfl, Lib.hid (by rw [hst]; exact HXV.out.set_ 1 _), Lib.hid (by rw [hst]; exact HKV.out.setCell HXV.out (by decide) _), Lib.hid (HBV.out.setCell (by show wr.heap.size ≤ wr.heap.size + 1; omega) _)⟩
        · have hb0 : (s.kind == 0) = false := by rw [hk]; rfl
          have hb1 : (s.kind == 1) = false := by rw [hk]; rfl
          have hb2 : (s.kind == 2) = false := by rw [hk]; rfl
          have hb3 : (s.kind == 3) = true := by rw [hk]; rfl
          have hb4 : (s.kind == 4) = false := by rw [hk]; rfl
          have hb5 : (s.kind == 5) = false := by rw [hk]; rfl
          have hb7 : (s.kind == 7) = false := by rw [hk]; rfl
          have hb8 : (s.kind == 8) = false := by rw [hk]; rfl
          have hst0 : spB (Hd ds) Z s = fndZ Z (if 0 ≤ s.at_ then Z[s.at_.toNat]? else none) := by unfold spB; simp [hk]
          by_cases h0 : 0 ≤ s.at_
          · by_cases h1 : s.at_ < (Z.length : Int)
            · have hkz : s.at_.toNat < Z.length := by omega
              obtain ⟨zad, rfl, c7⟩ := HIL.out.at_ hkz
              obtain ⟨z, hz⟩ : ∃ z, z = Z[s.at_.toNat] := ⟨_, rfl⟩
              rw [← hz] at c7
              have hst : spB (Hd ds) Z s = ⟨Z, true, -1, z⟩ := by rw [hst0, if_pos h0, List.getElem?_eq_getElem hkz, ← hz]; rfl
              have c7a : (wv.setCell ⟨wr.heap.size + 1, 0, none⟩ (.bool true)).cell? (zad.add s.at_.toNat) = some (.int .i64 z) := by
                obtain ⟨ad', e', _, hc⟩ := (KL.reads (HKV.out.setCell HXV.out (by decide) (i := 0) (.bool true))).1.2 (by omega)
                injection e' with e'
                subst e'
                exact hc _ _ (by rw [List.getElem?_map, List.getElem?_eq_getElem hkz, ← hz]; rfl)
              have HST := Lib.hid hst
              clear hst hst0 hk hz
              go_wp2_with fail
              go_meet
              have hst := HST.out
              exact ⟨_, _, _, rfl, rfl, Lib.hid (by rw [hst]; exact (HXV.out.set_ 0 _).set_ 2 _), Lib.hid (by rw [hst]; exact (HKV.out.setCell HXV.out (by decide) _).setCell (HXV.out.set_ 0 _) (by decide) _), Lib.hid ((HBV.out.setCell (by show wr.heap.size ≤ wr.heap.size + 1; omega) _).setCell (by show wr.heap.size ≤ wr.heap.size + 1; omega) _)⟩
            · have hst : spB (Hd ds) Z s = ⟨Z, false, -1, -1⟩ := by rw [hst0, if_pos h0, List.getElem?_eq_none (by omega)]; rfl
              have HST := Lib.hid hst
              clear hst hst0 hk
              go_wp2_with fail
              go_meet
              have hst := HST.out
              exact ⟨_, _, _, rfl, rfl, Lib.hid (by rw [hst]; exact HXV.out.set_ 0 _), Lib.hid (by rw [hst]; exact HKV.out.setCell HXV.out (by decide) _), Lib.hid (HBV.out.setCell (by show wr.heap.size ≤ wr.heap.size + 1; omega) _)⟩
          · have hst : spB (Hd ds) Z s = ⟨Z, false, -1, -1⟩ := by rw [hst0, if_neg h0]; rfl
            have HST := Lib.hid hst
            clear hst hst0 hk
            go_wp2_with fail
            go_meet
            have hst := HST.out
            exact ⟨_, _, _, rfl, rfl, Lib.hid (by rw [hst]; exact HXV.out.set_ 0 _), Lib.hid (by rw [hst]; exact HKV.out.setCell HXV.out (by decide) _), Lib.hid (HBV.out.setCell (by show wr.heap.size ≤ wr.heap.size + 1; omega) _)⟩
        · have hb0 : (s.kind == 0) = false := by rw [hk]; rfl
          have hb1 : (s.kind == 1) = false := by rw [hk]; rfl
          have hb2 : (s.kind == 2) = false := by rw [hk]; rfl
          have hb3 : (s.kind == 3) = false := by rw [hk]; rfl
          have hb4 : (s.kind == 4) = true := by rw [hk]; rfl
          have hb5 : (s.kind == 5) = false := by rw [hk]; rfl
          have hb7 : (s.kind == 7) = false := by rw [hk]; rfl
          have hb8 : (s.kind == 8) = false := by rw [hk]; rfl
          have hst0 : spB (Hd ds) Z s = fndZ Z (Z.find? (Hd ds s.id)) := by unfold spB; simp [hk]
          have HIF := Lib.hid (IndexF_calls (cap := #[.pointer (some ⟨wr.heap.size, 0, none⟩), .pointer (some ⟨w.heap.size, 0, none⟩)]) (c := Zc) HIL.out (by have := HZ.out.2; omega) (Hd ds s.id) (fun W hW z hz => by
            obtain ⟨i, rfl, hi⟩ := HZ.out.1 z hz
            have hWB : Below w1.heap.size w1 W := by
              have h1 := HB.out.trans (HBV.out.mono HWB.out)
              have h2 := h1.trans (hW.mono (Nat.le_trans HWB.out HBV.out.size))
              rw [HBE.out] at h2
              exact h2
            exact hit_calls (HD.out.1.below hWB (Nat.le_refl _)) (by rw [(HSV.out.below hW HSV.out.lt).cell]; rfl) (by rw [(HBX.out.below hWB HBX.out.lt).cell]; rfl) (HSS.out.2.2.1 s HSJ.out.2.2) i hi))
          cases hf : Z.findIdx? (Hd ds s.id) with
          | none =>
            have hst : spB (Hd ds) Z s = ⟨Z, false, -1, -1⟩ := by rw [hst0, find_none hf]; rfl
            have hix : ixF (Hd ds s.id) Z = -1 := by unfold ixF; rw [hf]
            rw [hix] at HIF
            have HST := Lib.hid hst
            clear hst hst0 hk hf hix x0 x1 x2 x0f x1f x2f
            go_wp2_with (go_at_call 19; (refine Calls.mono HIF.out ?_); rintro e w4 ⟨rfl, hb4⟩; have HX4 := Lib.hid (HXV.out.below hb4 HXV.out.lt); have HK4 := Lib.hid (HKV.out.below hb4); have HB4 := Lib.hid (HBV.out.trans (hb4.mono HBV.out.size)); have x0 : w4.cell? ⟨wr.heap.size + 1, 0, none⟩ = some (.bool true) := (by rw [HX4.out.cell]; rfl); have x0f := HX4.out.frozen 0; clear hb4)
            go_meet
            have hst := HST.out
            exact ⟨_, _, _, rfl, rfl, Lib.hid (by rw [hst]; exact HX4.out.set_ 0 _), Lib.hid (by rw [hst]; exact HK4.out.setCell HX4.out (by decide) _), Lib.hid (HB4.out.setCell (by show wr.heap.size ≤ wr.heap.size + 1; omega) _)⟩
          | some jj =>
            obtain ⟨hjz, hfz⟩ := find_idx hf
            obtain ⟨z, hz⟩ : ∃ z, z = Z[jj] := ⟨_, rfl⟩
            have hst : spB (Hd ds) Z s = ⟨Z, true, -1, z⟩ := by rw [hst0, hfz, ← hz]; rfl
            have hix : ixF (Hd ds s.id) Z = (jj : Nat) := by unfold ixF; rw [hf]
            rw [hix] at HIF
            have hjl2 : (jj : Int) < (Z.length : Int) := by omega
            have HST := Lib.hid hst
            have HZJ := Lib.hid (And.intro hjz hz)
            have hpa : (0 : Int) ≤ (jj : Nat) := by omega
            clear hst hst0 hk hf hix x0 x1 x2 x0f x1f x2f hfz
            obtain ⟨zad, hza, _⟩ := HIL.out.at_ hjz
            subst hza
            clear hz
            go_wp2_with (go_at_call 19; (refine Calls.mono HIF.out ?_); rintro e w4 ⟨rfl, hb4⟩; have HX4 := Lib.hid (HXV.out.below hb4 HXV.out.lt); have HK4 := Lib.hid (HKV.out.below hb4); have HB4 := Lib.hid (HBV.out.trans (hb4.mono HBV.out.size)); have x0 : w4.cell? ⟨wr.heap.size + 1, 0, none⟩ = some (.bool true) := (by rw [HX4.out.cell]; rfl); have x0f := HX4.out.frozen 0; have x2 : w4.cell? ⟨wr.heap.size + 1, 2, none⟩ = some (.int .i64 (-1)) := (by rw [HX4.out.cell]; rfl); have x2f := HX4.out.frozen 2; have c7a : (w4.setCell ⟨wr.heap.size + 1, 0, none⟩ (.bool true)).cell? (zad.add jj) = some (.int .i64 z) := (by obtain ⟨ad', e', _, hc⟩ := (KL.reads (HK4.out.setCell HX4.out (by decide) (i := 0) (.bool true))).1.2 (by have := HZJ.out.1; omega); injection e' with e'; subst e'; exact hc _ _ (by rw [List.getElem?_map, List.getElem?_eq_getElem HZJ.out.1, ← HZJ.out.2]; rfl)); clear hb4)
            go_meet
            have hst := HST.out
            exact ⟨_, _, _, rfl, rfl, Lib.hid (by rw [hst]; exact (HX4.out.set_ 0 _).set_ 2 _), Lib.hid (by rw [hst]; exact (HK4.out.setCell HX4.out (by decide) _).setCell (HX4.out.set_ 0 _) (by decide) _), Lib.hid ((HB4.out.setCell (by show wr.heap.size ≤ wr.heap.size + 1; omega) _).setCell (by show wr.heap.size ≤ wr.heap.size + 1; omega) _)⟩
        · have hb0 : (s.kind == 0) = false := by rw [hk]; rfl
          have hb1 : (s.kind == 1) = false := by rw [hk]; rfl
          have hb2 : (s.kind == 2) = false := by rw [hk]; rfl
          have hb3 : (s.kind == 3) = false := by rw [hk]; rfl
          have hb4 : (s.kind == 4) = false := by rw [hk]; rfl
          have hb5 : (s.kind == 5) = true := by rw [hk]; rfl
          have hb7 : (s.kind == 7) = false := by rw [hk]; rfl
          have hb8 : (s.kind == 8) = false := by rw [hk]; rfl
          have hst : spB (Hd ds) Z s = ⟨[], true, -1, -1⟩ := by unfold spB; simp [hk]
          have HST := Lib.hid hst
          clear hst hk
          go_wp2_with fail
          go_meet
          have hst := HST.out
          exact ⟨_, _, _, rfl, rfl, Lib.hid (by rw [hst]; exact HXV.out), Lib.hid (by rw [hst]; exact KL.nil _ _ _), Lib.hid HBV.out⟩
      case rest =>
        obtain ⟨A', n', c', rfl, rfl, HX, HK, HW⟩ := hcut
        obtain ⟨r, hr⟩ : ∃ r, r = spB (Hd ds) Z s := ⟨_, rfl⟩
        rw [← hr] at HX HK
        have HRE := Lib.hid hr
        have hlen : r.Z.length ≤ 101 := by rw [hr]; have := spB_len (H := Hd ds) (Z := Z) (s := s); have := HZ.out.2; omega
        clear hr q0 q1 q2 x0 x1 x2 x0f x1f x2f
        obtain ⟨A1, c1, hv1, hc1, _⟩ := HK.out.len
        rw [List.length_map] at hv1
        injection hv1 with e1 e2 e3
        subst e1; subst e2; subst e3
        have HXL := Lib.hid HX.out.lt
        have HCL := Lib.hid (CloneI_calls A' r.Z.length c' r.Z HK.out (by omega))
        go_wp2_with (first
          | (go_at_call 17; (with_reducible refine Calls.mono HCL.out ?_); rintro e w4 ⟨A5, c5, rfl, hk4, hb4⟩; have H4 := Lib.hid (And.intro hk4 hb4); clear hk4 hb4)
          | (go_at_call 15; refine (Values_calls _ _ _ _).mono ?_; rintro e w5 ⟨rfl, hw5⟩; have hb5 : Below w4.heap.size w4 w5 := (by rw [hw5]; exact below_alloc' (Below.refl _ _) _); have HSR := Lib.hid (Sorted_calls w4.heap.size (.slice none 0 0) [] (by simp) w5 (by rw [hw5, World.size_alloc]; omega) (by rw [hw5, (Blk.new w4 32 #[.slice none 0 0]).cell]; rfl) (.inl ⟨rfl, rfl⟩)); have H5 := Lib.hid hb5; clear hw5 hb5)
          | (go_at_call 14; (with_reducible refine Calls.mono HSR.out ?_); rintro e w6 ⟨v, rfl, hown, hb6⟩; obtain ⟨nA, nc, hv⟩ := own_slice hown; simp only [List.length_nil] at hv; subst hv; have hb46 := H5.out.trans (hb6.mono H5.out.size); have hbc := H4.out.2.trans (hb46.mono H4.out.2.size); have H6 := Lib.hid (And.intro (hk_seen H4.out.1 hb46) (And.intro (HW.out.trans (hbc.mono HW.out.size)) (And.intro (HX.out.below hbc HXL.out) (HK.out.below hbc)))); have z3 : w6.cell? ⟨wr.heap.size + 1, 3, none⟩ = some (.int .i64 0) := (by rw [H6.out.2.2.1.cell]; rfl); have z4 : w6.cell? ⟨wr.heap.size + 1, 4, none⟩ = some (.slice none 0 0) := (by rw [H6.out.2.2.1.cell]; rfl); have z5 : w6.cell? ⟨wr.heap.size + 1, 5, none⟩ = some (.slice none 0 0) := (by rw [H6.out.2.2.1.cell]; rfl); have z0 : w6.cell? ⟨wr.heap.size + 1, 0, none⟩ = some (.bool r.ok) := (by rw [H6.out.2.2.1.cell]; rfl); have z1 : w6.cell? ⟨wr.heap.size + 1, 1, none⟩ = some (.int .i64 r.idx) := (by rw [H6.out.2.2.1.cell]; rfl); have z2 : w6.cell? ⟨wr.heap.size + 1, 2, none⟩ = some (.int .i64 r.fnd) := (by rw [H6.out.2.2.1.cell]; rfl); have z3f := H6.out.2.2.1.frozen 3; have z4f := H6.out.2.2.1.frozen 4; have z5f := H6.out.2.2.1.frozen 5; obtain ⟨rs, hrs⟩ := spec_out (r := r) (nA := nA) (nc := nc) HOU.out H6.out.2.1 H6.out.2.2.1 (by omega) HWB.out (KL.base H6.out.1 (Nat.le_trans HWB.out HW.out.size)) H6.out.2.2.2; have HRS := Lib.hid hrs; clear hown hb6 hb46 hbc hrs)
          | (at_builtin; refine wpList_append_own _ rfl _ _ 30 rfl B 34 i0 zSeen 6 80 Tryz.underlying30 HI.out.1 HI.out.2.1 HI.out.2.2.1 HI.out.2.2.2 rfl (by decide) (.slice OA On Oc) rs.length (flat (·.1) rs) rfl HRS.out.1 ⟨w6.heap.size, 0, none⟩ 1 1 [.bool r.ok, .int .i64 r.idx, .int .i64 r.fnd, .int .i64 (r.Z.length : Nat), .slice A5 r.Z.length c5, .slice nA 0 nc] rfl rfl HRS.out.2.2.2.2.2.2 (seen_one _ _ _ _ _ _ _ _ _ _) (by have h1 := HRS.out.2.1; have h2 := congrArg List.length h1; rw [runS_len, List.length_take, List.length_map] at h2; unfold maxLen; omega) (by have h1 := HRS.out.2.1; have h2 := congrArg List.length h1; rw [runS_len, List.length_take, List.length_map] at h2; omega) (Nat.le_trans HWB.out HRS.out.2.2.2.2.1.size) ?_; intro v2 w8 hown hg8 _; obtain ⟨OA2, Oc2, hv2⟩ := own_slice hown; subst hv2; have HF := Lib.hid (show Outs w8 B (.slice OA2 (rs.length + 1) Oc2) (runS (Hd ds) [] (ss.take (j + 1))) ∧ KL w8 B 3 (.slice A' r.Z.length c') ((endS (Hd ds) [] (ss.take (j + 1))).map (Value.int .i64)) ∧ Below B w1 w8 from by
              have ho := Outs.snoc HRS.out.1 HRS.out.2.1 HRS.out.2.2.1 hown hg8 HRS.out.2.2.2.1
              rw [HRE.out, HSJ.out.2.1, runS_snoc HSJ.out.1] at ho
              have hk8 := (HRS.out.2.2.2.2.2.1).fr (own_fr HRS.out.1 hg8) (by decide)
              rw [← endS_snoc HSJ.out.1, ← HSJ.out.2.1, ← HRE.out]
              exact ⟨ho, hk8, (HB.out.trans (HRS.out.2.2.2.2.1.mono HWB.out)).trans (own_low HRS.out.1 hg8 (Nat.le_trans HWB.out HRS.out.2.2.2.2.1.size))⟩); clear hown hg8))
        go_roundg (sn - (j + 1))
        case measure => omega
        case rel => exact ⟨j + 1, OA2, _, Oc2, A', r.Z.length, c', by omega, by go_num, rfl, rfl, rfl, Lib.hid HF.out.1, Lib.hid HF.out.2.1, Lib.hid HF.out.2.2⟩
    · have hjl : ¬ (j : Int) < (sn : Int) := by omega
      have hjn : j = sn := by omega
      rw [hjn, HSN.out, List.take_length] at HOU
      go_wp2_with fail
      refine bodyPost_ret (v := .slice OA On Oc) (by kernel_rfl) rfl ?_
      exact ⟨B, _, rfl, HOU.out, HD.out.2.2.trans (HB.out.mono (by rw [HBE.out]; exact HD.out.2.2.size)), by rw [HBE.out]; exact HD.out.2.2.size⟩
end
end Go.Proofs.YtlbnemnadegapaaGreatDoor.Ky
