/- The walk of the law FnJoinMany; no condition on the lengths. -/
import Derived.Test.YteecamdcfkielaaDoorApart
import Derived.Test.YteecamdcfkielaaDoorPOther
import Derived.Test.YteecamdcfkielaaDoorSplit
import Derived.Lib.SlBytesConst
set_option linter.unusedVariables false
set_option linter.unusedSimpArgs false
namespace Go.Proofs.YteecamdcfkielaaDoor.Many
open Go.RowKit Go.Proofs.YteecamdcfkielaaDoor.K Go.Proofs.YteecamdcfkielaaDoor.Own Go.Proofs.YteecamdcfkielaaDoor.B64
open Go.Proofs.YteecamdcfkielaaDoor.Wr (whole fine whole_len wrapWhole_calls wrapAwake_calls Wrapped_yes Unwrapped_back wrapB encB wrap_len)
def u64s (zs : List Nat) : List Value := zs.map fun z => .int .u64 (z : Nat)
theorem PartSame_eq (w : World) (A B : Option Addr) (l : List UInt8) (n c k d : Nat) (h : RB w A n l) (h' : RB w B k l) :
    Calls Tryd.prog 12 #[.slice A n c, .slice B k d] w fun e w' => e = .returned (.bool true) ∧ w = w' := by
  have := PartSame_calls w A B l l n c k d h h'
  rwa [beq_self_eq_true] at this
theorem dec_raw (bs : List UInt8) : partDec (encRaw alURL bs) = some bs := by rw [encRaw_eq]; exact partDec_url false bs
theorem raw_nl (bs : List UInt8) : ∀ c ∈ encRaw alURL bs, c ≠ 10 ∧ c ≠ 13 := by rw [encRaw_eq]; exact enc_nl alURL false url_nl bs
set_option maxRecDepth 100000 in
set_option maxHeartbeats 4000000 in
theorem FnJoinMany_calls (w : World) (As : Option Addr) (ns cs : Nat) (zs : List Nat) (hs : Reads w 1 As ns (u64s zs)) (hz : ∀ z ∈ zs, z < 18446744073709551616)
    (A : Option Addr) (m c : Nat) (key : List UInt8) (hk : RB w A m key) (hc : m ≤ c) :
    Calls Tryd.prog 3 #[.slice As ns cs, .slice A m c] w fun e w' => e = .returned (.bool true) ∧ Below w.heap.size w w' := by
  have HSD := Lib.hid (And.intro hs hz)
  have HKEY := Lib.hid hk
  have HC := Lib.hid hc
  clear hs hz hk hc
  by_cases h1 : ns > 2147483647
  · go_enter Tryd.func3, Tryd.ntmps3
    go_wp2
    go_ret
    exact ⟨rfl, Below.refl _ _⟩
  have h1i : ¬ (2147483647 : Int) < (ns : Int) := by omega
  by_cases h2 : m > 2147483647
  · go_enter Tryd.func3, Tryd.ntmps3
    go_wp2
    go_ret
    exact ⟨rfl, Below.refl _ _⟩
  have h2i : ¬ (2147483647 : Int) < (m : Int) := by omega
  obtain ⟨n, hn⟩ : ∃ n, n = key.length / 8 := ⟨_, rfl⟩
  obtain ⟨k, hk⟩ : ∃ k, k = key.length / 8 * 8 := ⟨_, rfl⟩
  obtain ⟨bs, hbs⟩ : ∃ bs, bs = whole key := ⟨_, rfl⟩
  obtain ⟨fn, hfn⟩ : ∃ fn, fn = fine key := ⟨_, rfl⟩
  have hw1 := wrapWhole_calls w m A c key HKEY.out HC.out (by omega)
  rw [← hk, ← hbs, ← hfn] at hw1
  have HW1 := Lib.hid hw1
  have hbl : bs.length = k := by rw [hbs, whole_len, hk]
  have hfk : fn = true → 16 ≤ k ∧ k ≤ 400 := by
    intro h
    rw [hfn, fine, ← hk] at h
    simpa using h
  have hkn : k = 8 * n := by omega
  have HF := Lib.hid (And.intro hbl (And.intro hfk hkn))
  clear hw1 hbl hfk hkn hn hk hbs hfn
  go_enter Tryd.func3, Tryd.ntmps3
  go_wp2_with fail
  refine HW1.out.mono ?_
  rintro e w1 ⟨B1, d1, rfl, hc1, hr1, hB1⟩
  have HB1 := Lib.hid hB1
  have HK1 := Lib.hid hr1
  have HC1 := Lib.hid hc1
  have HAW := Lib.hid (wrapAwake_calls w1)
  clear hB1 hr1 hc1 HW1
  cases fn with
  | false =>
    go_wp2_with fail
    refine HAW.out.mono ?_
    rintro e wz ⟨rfl, hBz⟩
    have HBz := Lib.hid (below_then HB1.out hBz)
    clear hBz
    go_wp2
    go_ret
    exact ⟨rfl, HBz.out⟩
  | true =>
  by_cases h8 : 8 < ns
  · have h8i : (8 : Int) < (ns : Int) := by omega
    go_wp2_with fail
    refine HAW.out.mono ?_
    rintro e wz ⟨rfl, hBz⟩
    have HBz := Lib.hid (below_then HB1.out hBz)
    clear hBz
    go_wp2
    go_ret
    exact ⟨rfl, HBz.out⟩
  have h8i : ¬ (8 : Int) < (ns : Int) := by omega
  have hcv := fun (W : World) (C : Array Value) (n c : Nat) => Lib.run_convert_bytes_const (P := Tryd.prog) W 23 5 C n c Tryd.underlying23 Tryd.underlying5
  clear HAW
  obtain ⟨hk16, hk400⟩ := HF.out.2.1 rfl
  have hkb : k ≤ 140737488355328 := by omega
  go_wp2
  go_loopg [43] ns (fun q u43 wr => ∃ j : Nat, q + j = ns ∧ u43 = .int .i64 j ∧ Hid (Below w1.heap.size w1 wr))
  case atStart => exact ⟨0, rfl, rfl, Below.refl _ _⟩
  case round =>
    obtain ⟨j, hqj, rfl, HBR⟩ := hrel
    have HB0R := Lib.hid (below_then HB1.out HBR.out)
    by_cases hj : j < ns
    · obtain ⟨ad, u, rfl, hu, hcl⟩ := (HSD.out.1.below HB0R.out (Nat.le_refl _)).at_ hj
      obtain ⟨s, hsm, rfl⟩ : ∃ s, s ∈ zs ∧ u = .int .u64 (s : Nat) := by
        have := List.mem_of_getElem? hu
        obtain ⟨s, h1, h2⟩ := List.mem_map.1 this
        exact ⟨s, h1, h2.symm⟩
      have hs64 := HSD.out.2 s hsm
      clear hsm hu
      have HP1 := Lib.hid (partOwn_n wr B1 k d1 bs (HK1.out.below HBR.out (Nat.le_refl _)) hkb)
      go_wp2_with fail
      refine HP1.out.mono ?_
      rintro e wa ⟨Aa, ca, rfl, hca, hoa, hBa⟩
      have HBa := Lib.hid (below_then HBR.out hBa)
      have HP2 := Lib.hid (Wrapped_yes wa s k n Aa ca bs hs64 (by have := HF.out.2.2; omega) (by have := HF.out.2.2; omega) HF.out.2.2 (Reads.of_own hoa))
      clear hca hoa hBa HP1
      go_wp2_with fail
      refine HP2.out.mono ?_
      rintro e wb ⟨Ab, cb, rfl, hcb, hrb, hBb⟩
      obtain ⟨W, hW⟩ : ∃ W, W = wrapB (encB s) n bs := ⟨_, rfl⟩
      rw [← hW] at hrb
      have HW := Lib.hid hW
      have HBb := Lib.hid (below_alloc' (below_then HBa.out hBb) (.cells (bys [123, 125]).toArray 5 (2, 3)))
      have HRb := Lib.hid (hrb.below (below_alloc' (Below.refl wb.heap.size wb) (.cells (bys [123, 125]).toArray 5 (2, 3))) (Nat.le_refl _))
      have HLb := Lib.hid hrb.len
      have HLit : Hid (RB (wb.alloc (.cells (bys [123, 125]).toArray 5 (2, 3))) (some ⟨wb.heap.size, 0, none⟩) 2 [123, 125]) := Lib.hid (Go.Proofs.YteecamdcfkielaaDoor.B64.rb_marked wb [123, 125] 2 rfl _ _)
      clear hrb hcb hBb hW HP2
      have HP3 := Lib.hid (partOwn_n (wb.alloc (.cells (bys [123, 125]).toArray 5 (2, 3))) Ab (k + 8) cb W HRb.out (by omega))
      go_wp2_with fail
      refine HP3.out.mono ?_
      rintro e wc ⟨Ac, cc, rfl, hcc, hoc, hBc⟩
      have HBc := Lib.hid (below_then HBb.out hBc)
      have HJ := Lib.hid (Joined_calls true wc none (some ⟨wb.heap.size, 0, none⟩) Ac none 0 0 2 2 (k + 8) cc 0 0 [] [123, 125] W [] Reads.none_ (by omega) (HLit.out.below hBc (Nat.le_refl _)) (by omega) (Reads.of_own hoc) (by omega) Reads.none_ (by omega))
      clear hcc hoc hBc HP3 HLit HRb
      go_wp2_with fail
      with_reducible refine Calls.mono HJ.out ?_
      rintro e wd ⟨Ad, nd, cd, rfl, hcd, hnd, hod, hBd⟩
      have HBd := Lib.hid (below_then HBc.out hBd)
      have hrd : RB wd Ad nd (encRaw alURL [123, 125] ++ 46 :: (encRaw alURL W ++ 46 :: encRaw alURL [])) := Reads.of_own hod
      obtain ⟨K2, hK2⟩ : ∃ K2, (encRaw alURL W).length = K2 := ⟨_, rfl⟩
      have hK2b : K2 ≤ 100000 := by
        rw [← hK2, encRaw_len, ← HLb.out]
        unfold rawLen
        omega
      have hndb : nd ≤ 100000 := by
        have := hrd.len
        rw [List.length_append, List.length_cons, List.length_append, List.length_cons, hK2] at this
        have e1 : (encRaw alURL [123, 125]).length = 3 := rfl
        have e2 : (encRaw alURL []).length = 0 := rfl
        have : K2 ≤ 1000 := by
          rw [← hK2, encRaw_len, ← HLb.out]
          unfold rawLen
          omega
        omega
      have HSP := Lib.hid (Split_calls wd Ad nd cd 3 K2 0 _ _ _ hrd hndb (raw_nodot _) (raw_nodot _) (raw_nodot _) rfl hK2 rfl)
      clear hcd hnd hod hBd hrd HJ hndb
      go_wp2_with fail
      with_reducible refine Calls.mono HSP.out ?_
      rintro e we ⟨A1, c1, A2, c2, A3, c3, rfl, hx1, hx2, hx3, hq1, hq2, hq3, hBe⟩
      have HBe := Lib.hid (below_then HBd.out hBe)
      have HD := Lib.hid (Decoded_yes we A2 K2 c2 (encRaw alURL W) W hx2 hq2 hK2b (raw_nl W) (dec_raw W))
      clear hx1 hx2 hx3 hq1 hq2 hq3 hBe HSP hK2
      go_wp2_with fail
      refine HD.out.mono ?_
      rintro e wf ⟨Af, cf, rfl, hcf, hof, hBf⟩
      have HBf := Lib.hid (below_then HBe.out hBf)
      have hrf : RB wf Af W.length W := Reads.of_own hof
      rw [← HLb.out] at hrf ⊢
      have HU := Lib.hid (Unwrapped_back wf s (k + 8) n Af cf bs hs64 (by have := HF.out.2.2; omega) (by have := HF.out.2.2; omega) (by rw [HF.out.1, HF.out.2.2]) (by have := HF.out.2.2; omega) (by rw [← HW.out]; exact hrf))
      clear hcf hof hBf hrf HD
      go_wp2_with fail
      refine HU.out.mono ?_
      rintro e wg ⟨Ag, cg, rfl, hcg, hrg, hBg⟩
      have HBg := Lib.hid (below_then HBf.out hBg)
      have HS := Lib.hid (PartSame_eq wg Ag B1 bs (8 * n) cg k d1 hrg (HK1.out.below HBg.out (Nat.le_refl _)))
      clear hcg hrg hBg HU
      go_wp2_with fail
      refine HS.out.mono ?_
      rintro e wh ⟨rfl, rfl⟩
      go_wp2
      go_roundg (ns - (j + 1))
      case measure => omega
      case rel => exact ⟨j + 1, by omega, by go_num, HBg⟩
    · obtain rfl : j = ns := by omega
      have HAW := Lib.hid (wrapAwake_calls wr)
      go_wp2_with fail
      refine HAW.out.mono ?_
      rintro e wz ⟨rfl, hBz⟩
      have HBz := Lib.hid (below_then HB0R.out hBz)
      clear hBz
      go_wp2
      go_ret
      exact ⟨rfl, HBz.out⟩
end Go.Proofs.YteecamdcfkielaaDoor.Many
