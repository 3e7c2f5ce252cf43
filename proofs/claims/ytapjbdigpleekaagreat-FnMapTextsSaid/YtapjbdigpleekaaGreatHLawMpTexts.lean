import Derived.Test.YtapjbdigpleekaaGreatHLawMpEmpty
import Derived.Deep.RegionHeld3
import Derived.Deep.DeepCutAuto
/- The law FnMapTexts: it returns true of every input; the conditions are on what lies in memory, and the range of a number. -/
set_option linter.unusedVariables false
set_option linter.unusedSimpArgs false
namespace Go.Proofs.YtapjbdigpleekaaGreat.Mp
open Go.RowKit Go.Proofs.YtapjbdigpleekaaGreat.K Go.Proofs.YtapjbdigpleekaaGreat.Cl
theorem txt_all {k : Nat} (hk : k < 4) {n : ByteArray} (h : n ∈ txtL k) : shK k n = some 0 ∧ n ∉ othL k := by
  have key : (txtL k).all (fun n => decide (shK k n = some 0) && !((othL k).any fun y => decide (y = n))) = true := by
    rcases (by omega : k = 0 ∨ k = 1 ∨ k = 2 ∨ k = 3) with rfl | rfl | rfl | rfl <;> kernel_rfl
  have := List.all_eq_true.1 key n h
  rw [Bool.and_eq_true] at this
  exact ⟨of_decide_eq_true this.1, not_oth k n (by simpa using this.2)⟩
/-- What the second value leaves there. -/
def dueT (n s : ByteArray) (x : PV) : Bool × NP := match x with | .txt t => (true, (n, .txt t)) | _ => (false, (n, .txt s))
theorem texts_run {k : Nat} (hk : k < 4) {n s : ByteArray} {x : PV} (h : n ∈ txtL k) : runS k [(0, (n, .txt s)), (0, (n, x))] [] = ([true, (dueT n s x).1], [(dueT n s x).2]) := by
  have hsh := (txt_all hk h).1
  have h1 : stepS k [] (0, (n, .txt s)) = (true, [(n, .txt s)]) := by
    unfold stepS takeK
    rw [if_pos rfl, hsh]
    rfl
  have h2 : stepS k [(n, .txt s)] (0, (n, x)) = ((dueT n s x).1, [(dueT n s x).2]) := by
    unfold stepS takeK dueT
    rw [if_pos rfl, hsh]
    cases x with
    | txt t => simp [putG]
    | tru b => rfl
    | num z => rfl
    | lst l => rfl
  rw [runS, h1, runS, h2]
  rfl
theorem due_fld (n s : ByteArray) (kv : Int) (t : ByteArray) (b : Bool) (z : Int) (l : List ByteArray) : dueT n s (pvOf kv t b z l) = if kv = 0 then (true, (n, .txt t)) else (false, (n, .txt s)) := by
  unfold pvOf dueT
  by_cases h0 : kv = 0
  · rw [if_pos h0, if_pos h0]
  · rw [if_neg h0, if_neg h0]
    by_cases h1 : kv = 1
    · rw [if_pos h1]
    · rw [if_neg h1]
      by_cases h2 : kv = 2
      · rw [if_pos h2]
      · rw [if_neg h2]
theorem infoFd6 : (Tryz.prog.info? 45).map (·.size) = some 6 := by kernel_rfl
theorem one_sorted (p : NP) : SortedP [p] := List.pairwise_singleton _ _
theorem perm_one {L : List NP} {p : NP} (h : L.Perm [p]) : L = [p] := List.perm_singleton.1 h
set_option maxRecDepth 100000 in
set_option maxHeartbeats 16000000 in
theorem FnMapTexts_calls (w : World) (n : Nat) (hn : n ≤ 255) (text : ByteArray) (kv : Int) (t : ByteArray) (b : Bool) (z : Int) (A : Option Addr) (m c : Nat) (l : List ByteArray) (h : SL w A m l) (hz : -2147483648 ≤ z ∧ z ≤ 2147483647) :
    Calls Tryz.prog 7 #[.int .u8 (n : Int), .string text, plainV kv t b z A m c] w (BoolB w true) := by
  unfold plainV
  have HWH := Lib.hid (fun W => mapWhich_calls W n hn)
  have hk : n % 4 < 4 := Nat.mod_lt _ (by decide)
  obtain ⟨k, hkk⟩ : ∃ k, k = n % 4 := ⟨_, rfl⟩
  rw [← hkk] at HWH hk
  have HAW := Lib.hid mapAwake_calls
  have HTX := Lib.hid mapText_calls
  have HZ := Lib.hid hz
  obtain ⟨wP, hwP⟩ : ∃ wP, wP = w.alloc (.cells #[.int .i64 kv, .string t, .bool b, .int .i32 z, .slice A m c] 43) := ⟨_, rfl⟩
  have HP : Hid (Below w.heap.size w wP ∧ Blk wP w.heap.size 43 #[.int .i64 kv, .string t, .bool b, .int .i32 z, .slice A m c]) := Lib.hid (by rw [hwP]; exact ⟨below_alloc' (Below.refl _ _) _, Blk.new w _ _⟩)
  have HSL := Lib.hid (h.below HP.out.1 (Nat.le_refl _))
  have HFI := Lib.hid (zzFits1_calls wP kv t b z A m c l HSL.out)
  clear h hz hkk hn
  by_cases hbig : (2147483647 : Int) < (text.size : Int)
  · go_enter Tryz.func7, Tryz.ntmps7
    go_wp2
    go_ret
    exact ⟨rfl, by have := HP.out.1; rwa [hwP] at this⟩
  go_enter Tryz.func7, Tryz.ntmps7
  go_upto_region 1 with (fail)
  rw [← hwP]
  clear hwP
  obtain ⟨p0, p1, p2, p3, p4⟩ := five_cells HP.out.2
  go_wp2_with fail
  refine HFI.out.mono ?_
  rintro e w1 ⟨r, rfl, _, hb1⟩
  have HB1 := Lib.hid (K.below_then HP.out.1 hb1)
  have HP1 := Lib.hid (HP.out.2.below hb1 HP.out.2.lt)
  have HSL1 := Lib.hid (HSL.out.below hb1 (Nat.le_refl _))
  clear hb1 HFI p0 p1 p2 p3 p4
  cases r with
  | false =>
    go_wp2
    go_ret
    exact ⟨rfl, HB1.out⟩
  | true =>
    go_wp2_with fail
    refine (HWH.out w1).mono ?_
    rintro e w2 ⟨rfl, hw2⟩
    subst hw2
    by_cases hsz : (200 : Int) < (text.size : Int)
    · go_wp2_with fail
      refine (HAW.out _).mono ?_
      rintro e w3 ⟨rfl, hb3⟩
      have HB3 := Lib.hid (K.below_then HB1.out hb3)
      clear hb3
      go_wp2
      go_ret
      exact ⟨rfl, HB3.out⟩
    obtain ⟨p0, p1, p2, p3, p4⟩ := five_cells HP1.out
    have HSH := Lib.hid (mapShort_calls (w2.alloc (.cells #[.string nX, .int .i64 kv, .string t, .bool b, .int .i32 z, .slice A m c] 45)) k hk (some ⟨w2.heap.size, 0, none⟩) 1 1 [⟨nX, kv, t, b, z, A, m, c, l⟩] ⟨reads_lit w2 6 1 (fvs [⟨nX, kv, t, b, z, A, m, c, l⟩]) _ rfl rfl _, fun f hf => by rw [List.mem_singleton.1 hf]; exact HSL1.out.below (below_alloc' (Below.refl _ _) _) (Nat.le_refl _)⟩)
    go_wp2_with fail
    refine HSH.out.mono ?_
    rintro e w3 ⟨r, rfl, hsh, hb3⟩
    have HB3' := Lib.hid ((below_alloc' (Below.refl w2.heap.size w2) (.cells #[.string nX, .int .i64 kv, .string t, .bool b, .int .i32 z, .slice A m c] 45)).trans (hb3.mono (by simp)))
    have HB3 := Lib.hid (K.below_then HB1.out HB3'.out)
    have HP3 := Lib.hid (HP1.out.below HB3'.out HP1.out.lt)
    have HSL3 := Lib.hid (HSL1.out.below HB3'.out (Nat.le_refl _))
    have HSHO := Lib.hid hsh
    clear hb3 hsh HSH p0 p1 p2 p3 p4
    cases r with
    | false =>
      go_wp2_with fail
      refine (HAW.out _).mono ?_
      rintro e w4 ⟨rfl, hb4⟩
      have HB4 := Lib.hid (K.below_then HB3.out hb4)
      clear hb4
      go_wp2
      go_ret
      exact ⟨rfl, HB4.out⟩
    | true =>
      have HF : Hid (ShF k ⟨nX, kv, t, b, z, A, m, c, l⟩) := Lib.hid ((HSHO.out rfl).2 _ (List.mem_singleton.2 rfl))
      have HMT := Lib.hid (MapTexts_calls w3 k hk)
      clear HSHO
      go_wp2_with fail
      refine HMT.out.mono ?_
      rintro e w4 ⟨A4, n4, c4, rfl, hs4, hn4, hb4⟩
      have HS4 := Lib.hid hs4
      have HL4 := Lib.hid hs4.len
      have HB4 := Lib.hid (K.below_then HB3.out hb4)
      have HP4 := Lib.hid (HP3.out.below hb4 HP3.out.lt)
      have HSL4 := Lib.hid (HSL3.out.below hb4 (Nat.le_refl _))
      have HR0 : Hid (Below w4.heap.size w4 w4) := Lib.hid (Below.refl _ _)
      clear hs4 hb4 HMT
      go_wp2_with fail
      go_loopg [9, 10, 11, 12, 38] n4 (fun q v9 v10 v11 v12 v38 wr => ∃ j : Nat, q + j = n4 ∧ v38 = .int .i64 (j : Nat) ∧ Hid (Below w4.heap.size w4 wr))
      case atStart => exact ⟨0, rfl, rfl, HR0⟩
      case round =>
        clear HR0
        obtain ⟨j, hqj, rfl, HR⟩ := hrel
        by_cases hj : j < n4
        · have hjl : j < (txtL k).length := by have := HL4.out; omega
          have hji : (j : Int) < (n4 : Int) := by omega
          obtain ⟨ad, rfl, hcn⟩ := (HS4.out.below HR.out (Nat.le_refl _)).at_ hjl
          have HMEM : Hid ((txtL k)[j] ∈ txtL k) := Lib.hid (List.getElem_mem hjl)
          obtain ⟨nm, hnm⟩ : ∃ nm, nm = (txtL k)[j] := ⟨_, rfl⟩
          rw [← hnm] at hcn HMEM
          clear hnm
          have HPR := Lib.hid (HP4.out.below HR.out HP4.out.lt)
          have HSLR := Lib.hid (HSL4.out.below HR.out (Nat.le_refl _))
          go_upto_region 9 with (fail)
          clear hcn
          have HNO := Lib.hid (txt_all hk HMEM.out).2
          have HPD : Hid (Blk wr.drew w.heap.size 43 #[.int .i64 kv, .string t, .bool b, .int .i32 z, .slice A m c]) := HPR.out
          have HSLD : Hid (SL wr.drew A m l) := HSLR.out
          have HT9 := Lib.hid (HTX.out wr.drew nm text)
          have HFI2 : Hid (FdIn k ⟨nm, kv, t, b, z, A, m, c, l⟩) := Lib.hid (by
            have h := in_of_short HF.out HSLR.out HZ.out
            exact ⟨h.1, h.2.1, h.2.2.1, h.2.2.2.1, HNO.out⟩)
          have HM := Lib.hid (fun (w5 : World) (hB : Below wr.drew.heap.size wr.drew w5) => Mapped_calls hk (w := w5.alloc (.cells #[.int .i64 0, .string nm, .int .i64 0, .string text, .bool false, .int .i32 0, .slice none 0 0, .int .i64 0, .string nm, .int .i64 kv, .string t, .bool b, .int .i32 z, .slice A m c] 52)) (A := some ⟨w5.heap.size, 0, none⟩) (n := 2) (c := 2) (ss := [⟨0, fdT nm text⟩, ⟨0, ⟨nm, kv, t, b, z, A, m, c, l⟩⟩])
            ⟨reads_lit w5 7 2 (mvs [⟨0, fdT nm text⟩, ⟨0, ⟨nm, kv, t, b, z, A, m, c, l⟩⟩]) _ rfl rfl _, (fun s hs => by
              simp only [List.mem_cons, List.not_mem_nil, or_false] at hs
              rcases hs with rfl | rfl
              · exact nil_sl _
              · exact HSLD.out.below (hB.trans ((below_alloc' (Below.refl _ _) _).mono hB.size)) (Nat.le_refl _))⟩
            (fun s hs => by
              simp only [List.mem_cons, List.not_mem_nil, or_false] at hs
              rcases hs with rfl | rfl
              · exact fdT_in HNO.out
              · exact HFI2.out) (by decide) (.inl (fun s hs => by
              simp only [List.mem_cons, List.not_mem_nil, or_false] at hs
              rcases hs with rfl | rfl <;> simp)))
          go_cut [10, 11] (fun v10 v11 wx => ∃ A1 n1 c1 A2 n2 c2 gs, v10 = .slice A1 n1 c1 ∧ v11 = .slice A2 n2 c2 ∧ Hid (Below wr.heap.size wr wx ∧ BO wx 0 (.slice A1 n1 c1) [true, (dueT nm text (pvOf kv t b z l)).1] ∧ n1 = 2 ∧ FO wx 0 (.slice A2 n2 c2) gs ∧ n2 = gs.length ∧ gs.map fld = [(dueT nm text (pvOf kv t b z l)).2]))
          case first =>
            go_region_held3 (fun W => W.cell? ⟨w.heap.size, 0, none⟩ = some (.int .i64 kv) ∧ W.cell? ⟨w.heap.size, 1, none⟩ = some (.string t) ∧ W.cell? ⟨w.heap.size, 2, none⟩ = some (.bool b) ∧ W.cell? ⟨w.heap.size, 3, none⟩ = some (.int .i32 z) ∧ W.cell? ⟨w.heap.size, 4, none⟩ = some (.slice A m c)) (first | exact five_cells HP7.out | exact five_cells HP6.out | exact five_cells HP5.out | exact five_cells HPD.out) (first
              | ((with_reducible refine Calls.mono HT9.out ?_); rintro e w5 ⟨rfl, hb5⟩; have HP5 := Lib.hid (HPD.out.below hb5 HPD.out.lt); have HB5 := Lib.hid ((sd_below wr wr.heap.size).trans hb5); have HM5 := Lib.hid (HM.out w5 hb5); have HP6 := Lib.hid (HP5.out.alloc (.cells #[.int .i64 0, .string nm, .int .i64 0, .string text, .bool false, .int .i32 0, .slice none 0 0, .int .i64 0, .string nm, .int .i64 kv, .string t, .bool b, .int .i32 z, .slice A m c] 52)); clear hb5 HT9)
              | ((with_reducible refine Calls.mono HM5.out ?_); rintro e w7 ⟨A1, n1, c1, A2, n2, c2, gs, rfl, hbo, hn1, hfo, hn2, hpm, hsrt, hb7⟩; have HP7 := Lib.hid (HP6.out.below hb7 HP6.out.lt); have H7 := Lib.hid (And.intro hbo (And.intro hn1 (And.intro hfo (And.intro hn2 (And.intro hpm (below_alloc' HB5.out (.cells #[.int .i64 0, .string nm, .int .i64 0, .string text, .bool false, .int .i32 0, .slice none 0 0, .int .i64 0, .string nm, .int .i64 kv, .string t, .bool b, .int .i32 z, .slice A m c] 52) |>.trans (hb7.mono (size_alloc_le HB5.out _)))))))); clear hbo hn1 hfo hn2 hpm hsrt hb7 HM5))
            all_goals
              go_wp2_with fail
              go_meet
              case rel =>
                have hr := texts_run hk (s := text) (x := pvOf kv t b z l) HMEM.out
                have h7 := H7.out
                rw [show [(⟨0, fdT nm text⟩ : Ms), ⟨0, ⟨nm, kv, t, b, z, A, m, c, l⟩⟩].map stT = [(0, (nm, .txt text)), (0, (nm, pvOf kv t b z l))] from rfl, hr] at h7
                exact ⟨A1, n1, c1, A2, n2, c2, gs, rfl, rfl, h7.2.2.2.2.2, ⟨own_base h7.1.1 (Nat.zero_le _), h7.1.2⟩, h7.2.1, h7.2.2.1.base (Nat.zero_le _), h7.2.2.2.1, perm_one h7.2.2.2.2.1⟩
          case rest =>
            obtain ⟨A1, n1, c1, A2, n2, c2, gs, rfl, rfl, HC⟩ := hcut
            have HPC := Lib.hid (HPR.out.below HC.out.1 HPR.out.lt)
            have hn1 := HC.out.2.2.1
            have hn2 := HC.out.2.2.2.2.1
            subst hn1
            subst hn2
            have HT8 := Lib.hid (HTX.out wc nm text)
            by_cases k0 : kv = 0
            · subst k0
              have HDU : Hid (dueT nm text (pvOf 0 t b z l) = (true, (nm, .txt t))) := Lib.hid (by rw [due_fld, if_pos rfl])
              have HGS : Hid (gs.map fld = [fdT nm t].map fld) := Lib.hid (by rw [HC.out.2.2.2.2.2, HDU.out]; rfl)
              have HCB : Hid (BO wc 0 (.slice A1 2 c1) [true, true] ∧ FO wc 0 (.slice A2 gs.length c2) gs) := Lib.hid ⟨by have := HC.out.2.1; rwa [HDU.out] at this, HC.out.2.2.2.1⟩
              go_wp2_with fail
              refine HT8.out.mono ?_
              rintro e w8 ⟨rfl, hb8⟩
              have HB8 := Lib.hid (HC.out.1.trans (hb8.mono HC.out.1.size))
              have HBC8 := Lib.hid hb8
              have HB9 := Lib.hid (below_alloc' HB8.out (.cells #[.string nm, .int .i64 0, .string text, .bool false, .int .i32 0, .slice none 0 0] 45))
              have HP9 := Lib.hid ((HPC.out.below hb8 HPC.out.lt).alloc (.cells #[.string nm, .int .i64 0, .string text, .bool false, .int .i32 0, .slice none 0 0] 45))
              have HV9 := Lib.hid (Blk.new w8 45 #[.string nm, .int .i64 0, .string text, .bool false, .int .i32 0, .slice none 0 0])
              have HC9 : Hid (BO (w8.alloc (.cells #[.string nm, .int .i64 0, .string text, .bool false, .int .i32 0, .slice none 0 0] 45)) 0 (.slice A1 2 c1) [true, true] ∧ FO (w8.alloc (.cells #[.string nm, .int .i64 0, .string text, .bool false, .int .i32 0, .slice none 0 0] 45)) 0 (.slice A2 gs.length c2) gs) := Lib.hid ⟨(HCB.out.1.below hb8).below (below_alloc' (Below.refl _ _) _), (HCB.out.2.below hb8).below (below_alloc' (Below.refl _ _) _)⟩
              have q0 := (HP9.out.cell 0).trans rfl
              have q1 : (w8.alloc (.cells #[.string nm, .int .i64 0, .string text, .bool false, .int .i32 0, .slice none 0 0] 45)).cell? ⟨w.heap.size, 1, none⟩ = some (.string t) := (HP9.out.cell 1).trans rfl
              have q00 : (w8.alloc (.cells #[.string nm, .int .i64 0, .string text, .bool false, .int .i32 0, .slice none 0 0] 45)).cell? ⟨w.heap.size, 0, none⟩ = some (.int .i64 0) := (HP9.out.cell 0).trans rfl
              have HT9 := Lib.hid (HTX.out (w8.alloc (.cells #[.string nm, .int .i64 0, .string text, .bool false, .int .i32 0, .slice none 0 0] 45)) nm t)
              clear q0 hb8 HT8
              go_wp2_with fail
              refine HT9.out.mono ?_
              rintro e w10 ⟨rfl, hb10⟩
              have HV10 := Lib.hid (HV9.out.below hb10 (by simp))
              have HP10 := Lib.hid (HP9.out.below hb10 HP9.out.lt)
              have HB10 := Lib.hid (HB9.out.trans (hb10.mono (by have := HB9.out.size; simpa using this)))
              have HC10 : Hid (BO w10 0 (.slice A1 2 c1) [true, true] ∧ FO w10 0 (.slice A2 gs.length c2) gs) := Lib.hid ⟨HC9.out.1.below hb10, HC9.out.2.below hb10⟩
              have HBC10 := Lib.hid (((HBC8.out).trans ((below_alloc' (Below.refl _ _) (.cells #[.string nm, .int .i64 0, .string text, .bool false, .int .i32 0, .slice none 0 0] 45)).mono HBC8.out.size)).trans (hb10.mono (by have := HBC8.out.size; simp only [World.size_alloc]; omega)))
              have HNE := Lib.hid (show w.heap.size ≠ w8.heap.size by have h1 := HPC.out.lt; have h2 := HC.out.1.size; have h3 := HB8.out.size; have h4 := HPR.out.lt; omega)
              have HWR := Lib.hid (show wr.heap.size ≤ w8.heap.size from HB8.out.size)
              clear hb10 HT9 q1 q00
              go_upto_region 13 with (((with_reducible refine st_at (.tmp 12) ?_); (refine wpList_store_blk rfl _ _ _ rfl w8.heap.size rfl #[.string nm, .int .i64 0, .string t, .bool false, .int .i32 0, .slice none 0 0] _ rfl 45 HV10.out infoFd6 rfl (by first | kernel_rfl | simp [Value.oneCell']) ?_); intro w11 hb11 hg11 hs11; have H11 := Lib.hid (And.intro hb11 hg11); clear hb11 hg11 hs11))
              have HP11 := Lib.hid (HP10.out.grown H11.out.2 (fun e => HNE.out (by injection e)))
              have q2 : w11.cell? ⟨w.heap.size, 0, none⟩ = some (.int .i64 0) := (HP11.out.cell 0).trans rfl
              have HBC11 := Lib.hid (HBC10.out.grown H11.out.2 HBC10.out.size (by intro i hi; cases hi; exact HBC8.out.size))
              have HC11 : Hid (BO w11 0 (.slice A1 2 c1) [true, true] ∧ FO w11 0 (.slice A2 gs.length c2) gs) := Lib.hid ⟨HCB.out.1.below HBC11.out, HCB.out.2.below HBC11.out⟩
              have HB11 := Lib.hid (HB10.out.grown H11.out.2 HB10.out.size (by intro i hi; cases hi; exact HWR.out))
              have HQ := Lib.hid (BEqual_calls (w11.alloc (.cells #[.bool true, .bool true] 4)) A1 (some ⟨w11.heap.size, 0, none⟩) [true, true] [true, true] 2 c1 2 2 ((HC11.out.1.bl rfl).below (below_alloc' (Below.refl _ _) _) (Nat.le_refl _)) (reads_lit w11 1 2 _ _ rfl rfl _) (by decide) true (by simp))
              have HB15 := Lib.hid (below_alloc' (Below.refl w11.heap.size w11) (.cells #[.bool true, .bool true] 4))
              go_wp2_with fail
              refine HQ.out.mono ?_
              rintro e w16 ⟨rfl, hb16⟩
              have HB16 := Lib.hid (HB15.out.trans (hb16.mono (by simp)))
              have HV16 := Lib.hid (H11.out.1.below HB16.out H11.out.1.lt)
              obtain ⟨v0, v1, v2, v3, v4, v5⟩ := six_cells HV16.out
              have HF16 := Lib.hid (HC11.out.2.below HB16.out)
              have HMS := Lib.hid (MapSame_calls (w16.alloc (.cells #[.string nm, .int .i64 0, .string t, .bool false, .int .i32 0, .slice none 0 0] 45)) A2 (some ⟨w16.heap.size, 0, none⟩) gs.length c2 1 1 gs [fdT nm t] ((HF16.out.below (below_alloc' (Below.refl _ _) _)).fl rfl) ⟨reads_lit w16 6 1 (fvs [fdT nm t]) _ rfl rfl _, fun f hf => by rw [List.mem_singleton.1 hf]; exact nil_sl _⟩ HF16.out.fk (fun f hf => by rw [List.mem_singleton.1 hf]; exact ⟨Int.le_refl _, by show (0 : Int) ≤ 3; decide, Nat.zero_le _⟩) (by have h := congrArg List.length HGS.out; rw [List.length_map] at h; rw [h]; show 1 ≤ 1000000; decide))
              have HB17 := Lib.hid (below_alloc' (Below.refl w16.heap.size w16) (.cells #[.string nm, .int .i64 0, .string t, .bool false, .int .i32 0, .slice none 0 0] 45))
              clear hb16 HQ
              go_wp2_with fail
              refine HMS.out.mono ?_
              rintro e w18 ⟨r, rfl, hr, hb18⟩
              obtain rfl : r = true := hr.2 HGS.out
              have HB18 := Lib.hid (((HB11.out.trans (HB16.out.mono HB11.out.size)).trans (HB17.out.mono (Nat.le_trans HB11.out.size HB16.out.size))).trans (hb18.mono (Nat.le_trans HB11.out.size (Nat.le_trans HB16.out.size (by simp)))))
              clear hr hb18 HMS
              go_wp2_with fail
              go_roundg (n4 - (j + 1))
              case measure => omega
              case rel => exact ⟨j + 1, by omega, by go_num, HR.out.trans (HB18.out.mono HR.out.size)⟩
            · have b0 : (kv == 0) = false := by rw [beq_eq_false_iff_ne]; exact k0
              have HDU : Hid (dueT nm text (pvOf kv t b z l) = (false, (nm, .txt text))) := Lib.hid (by rw [due_fld, if_neg k0])
              have HGS : Hid (gs.map fld = [fdT nm text].map fld) := Lib.hid (by rw [HC.out.2.2.2.2.2, HDU.out]; rfl)
              have HCB : Hid (BO wc 0 (.slice A1 2 c1) [true, false] ∧ FO wc 0 (.slice A2 gs.length c2) gs) := Lib.hid ⟨by have := HC.out.2.1; rwa [HDU.out] at this, HC.out.2.2.2.1⟩
              go_wp2_with fail
              refine HT8.out.mono ?_
              rintro e w8 ⟨rfl, hb8⟩
              obtain ⟨w9, hw9⟩ : ∃ w9, w9 = w8.alloc (.cells #[.string nm, .int .i64 0, .string text, .bool false, .int .i32 0, .slice none 0 0] 45) := ⟨_, rfl⟩
              have HB9 := Lib.hid (show Below wr.heap.size wr w9 by rw [hw9]; exact below_alloc' (HC.out.1.trans (hb8.mono HC.out.1.size)) _)
              have HP9 := Lib.hid (show Blk w9 w.heap.size 43 _ by rw [hw9]; exact (HPC.out.below hb8 HPC.out.lt).alloc _)
              have HV9 := Lib.hid (show Blk w9 w8.heap.size 45 _ by rw [hw9]; exact Blk.new w8 45 #[.string nm, .int .i64 0, .string text, .bool false, .int .i32 0, .slice none 0 0])
              have HC9 : Hid (BO w9 0 (.slice A1 2 c1) [true, false] ∧ FO w9 0 (.slice A2 gs.length c2) gs) := Lib.hid (by rw [hw9]; exact ⟨(HCB.out.1.below hb8).below (below_alloc' (Below.refl _ _) _), (HCB.out.2.below hb8).below (below_alloc' (Below.refl _ _) _)⟩)
              clear hb8 HT8
              go_upto_region 11 with (fail)
              rw [← hw9]
              clear hw9
              have q2 : w9.cell? ⟨w.heap.size, 0, none⟩ = some (.int .i64 kv) := (HP9.out.cell 0).trans rfl
              have HQ := Lib.hid (BEqual_calls (w9.alloc (.cells #[.bool true, .bool false] 4)) A1 (some ⟨w9.heap.size, 0, none⟩) [true, false] [true, false] 2 c1 2 2 ((HC9.out.1.bl rfl).below (below_alloc' (Below.refl _ _) _) (Nat.le_refl _)) (reads_lit w9 1 2 _ _ rfl rfl _) (by decide) true (by simp))
              have HB15 := Lib.hid (below_alloc' (Below.refl w9.heap.size w9) (.cells #[.bool true, .bool false] 4))
              go_wp2_with fail
              refine HQ.out.mono ?_
              rintro e w16 ⟨rfl, hb16⟩
              have HB16 := Lib.hid (HB15.out.trans (hb16.mono (by simp)))
              have HV16 := Lib.hid (HV9.out.below HB16.out HV9.out.lt)
              obtain ⟨v0, v1, v2, v3, v4, v5⟩ := six_cells HV16.out
              have HF16 := Lib.hid (HC9.out.2.below HB16.out)
              have HMS := Lib.hid (MapSame_calls (w16.alloc (.cells #[.string nm, .int .i64 0, .string text, .bool false, .int .i32 0, .slice none 0 0] 45)) A2 (some ⟨w16.heap.size, 0, none⟩) gs.length c2 1 1 gs [fdT nm text] ((HF16.out.below (below_alloc' (Below.refl _ _) _)).fl rfl) ⟨reads_lit w16 6 1 (fvs [fdT nm text]) _ rfl rfl _, fun f hf => by rw [List.mem_singleton.1 hf]; exact nil_sl _⟩ HF16.out.fk (fun f hf => by rw [List.mem_singleton.1 hf]; exact ⟨Int.le_refl _, by show (0 : Int) ≤ 3; decide, Nat.zero_le _⟩) (by have h := congrArg List.length HGS.out; rw [List.length_map] at h; rw [h]; show 1 ≤ 1000000; decide))
              have HB17 := Lib.hid (below_alloc' (Below.refl w16.heap.size w16) (.cells #[.string nm, .int .i64 0, .string text, .bool false, .int .i32 0, .slice none 0 0] 45))
              clear hb16 HQ
              go_wp2_with fail
              refine HMS.out.mono ?_
              rintro e w18 ⟨r, rfl, hr, hb18⟩
              obtain rfl : r = true := hr.2 HGS.out
              have HB18 := Lib.hid (((HB9.out.trans (HB16.out.mono HB9.out.size)).trans (HB17.out.mono (Nat.le_trans HB9.out.size HB16.out.size))).trans (hb18.mono (Nat.le_trans HB9.out.size (Nat.le_trans HB16.out.size (by simp)))))
              clear hr hb18 HMS
              go_wp2_with fail
              go_roundg (n4 - (j + 1))
              case measure => omega
              case rel => exact ⟨j + 1, by omega, by go_num, HR.out.trans (HB18.out.mono HR.out.size)⟩
        · have hji : ¬ (j : Int) < (n4 : Int) := by omega
          have HB5 := Lib.hid (K.below_then HB4.out HR.out)
          go_wp2_with fail
          refine (HAW.out _).mono ?_
          rintro e w6 ⟨rfl, hb6⟩
          have HB6 := Lib.hid (K.below_then HB5.out hb6)
          clear hb6
          go_wp2
          go_ret
          exact ⟨rfl, HB6.out⟩
end Go.Proofs.YtapjbdigpleekaaGreat.Mp
