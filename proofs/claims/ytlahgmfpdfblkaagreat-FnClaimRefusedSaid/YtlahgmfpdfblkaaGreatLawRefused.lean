/- The walk of the law FnClaimRefused; no condition on the fields and the value. -/
import Derived.Test.YtlahgmfpdfblkaaGreatClClone
set_option linter.unusedVariables false
set_option linter.unusedSimpArgs false
namespace Go.Proofs.YtlahgmfpdfblkaaGreat.Cl
open Go.RowKit Go.Proofs.YtlahgmfpdfblkaaGreat.K
theorem fl_of {w' : World} {base n c : Nat} {A : Option Addr} {fs : List Fd} (h : w'.ownsRow base 36 6 (.slice A n c) n (fvs fs)) (hs : ∀ f ∈ fs, SL w' f.A f.n f.l) : FL w' A n fs := ⟨Reads.of_own h, hs⟩
set_option maxRecDepth 100000 in
set_option maxHeartbeats 8000000 in
theorem FnClaimRefused_calls (w : World) (A : Option Addr) (n c : Nat) (fs : List Fd) (h : FL w A n fs) (k : Int) (t : ByteArray) (b : Bool) (z : Int) (A1 : Option Addr) (n1 c1 : Nat) (l1 : List ByteArray) (h1 : SL w A1 n1 l1) :
    Calls Tryz.prog 3 #[.slice A n c, plainV k t b z A1 n1 c1] w fun e w' => e = .returned (.bool true) ∧ Below w.heap.size w w' := by
  have HF := Lib.hid h
  have HS := Lib.hid h1
  have HLN := Lib.hid h.len
  clear h h1
  obtain ⟨wP, hwP⟩ : ∃ wP, wP = w.alloc (.cells #[.int .i64 k, .string t, .bool b, .int .i32 z, .slice A1 n1 c1] 25) := ⟨_, rfl⟩
  have hB0 : Below w.heap.size w wP := by rw [hwP]; exact below_alloc' (Below.refl w.heap.size w) _
  have hbk : Blk wP w.heap.size 25 #[.int .i64 k, .string t, .bool b, .int .i32 z, .slice A1 n1 c1] := by rw [hwP]; exact Blk.new w _ _
  have HB0 := Lib.hid hB0
  have HK0 := Lib.hid hbk
  have HZ := Lib.hid (zzFits4_calls wP A n c fs (HF.out.below hB0 (Nat.le_refl _)))
  clear hB0 hbk
  go_enter Tryz.func3, Tryz.ntmps3
  go_wp2_with fail
  rw [← hwP]
  clear hwP
  with_reducible refine Calls.mono HZ.out ?_
  rintro e w1 ⟨⟨r, rfl⟩, hB1⟩
  have HB1 := Lib.hid (below_then HB0.out hB1)
  have HK1 := Lib.hid (HK0.out.below hB1 HK0.out.lt)
  clear hB1 HZ HB0 HK0
  cases r with
  | false =>
    go_wp2
    go_ret
    exact ⟨rfl, HB1.out⟩
  | true =>
  obtain ⟨y0, y1, y2, y3, y4⟩ := five_cells HK1.out
  have HZ := Lib.hid (zzFits1_calls w1 k t b z A1 n1 c1 l1 (HS.out.below HB1.out (Nat.le_refl _)))
  go_wp2_with fail
  with_reducible refine Calls.mono HZ.out ?_
  rintro e w2 ⟨r, rfl, hr, hB2⟩
  have HB2 := Lib.hid (below_then HB1.out hB2)
  have HK2 := Lib.hid (HK1.out.below hB2 HK1.out.lt)
  have HR := Lib.hid hr
  clear hB2 hr HZ HB1 HK1 y0 y1 y2 y3 y4
  cases r with
  | false =>
    go_wp2
    go_ret
    exact ⟨rfl, HB2.out⟩
  | true =>
  have hnM : n1 ≤ 2147483647 := HR.out rfl
  have HMS := Lib.hid (mapShortL_calls w2 A n c fs (HF.out.below HB2.out (Nat.le_refl _)))
  clear HR
  go_wp2_with fail
  with_reducible refine Calls.mono HMS.out ?_
  rintro e w3 ⟨r, rfl, hr, hB3⟩
  have HB3 := Lib.hid (below_then HB2.out hB3)
  have HK3 := Lib.hid (HK2.out.below hB3 HK2.out.lt)
  have HR := Lib.hid hr
  have HAW := Lib.hid (claimAwake_calls w3)
  clear hB3 hr HMS HB2 HK2
  cases r with
  | false =>
    go_wp2_with fail
    with_reducible refine Calls.mono HAW.out ?_
    rintro e w4 ⟨rfl, hB4⟩
    have HB4 := Lib.hid (below_then HB3.out hB4)
    clear hB4
    go_wp2
    go_ret
    exact ⟨rfl, HB4.out⟩
  | true =>
  have HSH := Lib.hid (show ShortP n fs from HR.out rfl)
  obtain ⟨y0, y1, y2, y3, y4⟩ := five_cells HK3.out
  have HCS := Lib.hid (claimShort_calls w3 k t b z A1 n1 c1 l1 (HS.out.below HB3.out (Nat.le_refl _)) hnM)
  clear HR HAW
  go_wp2_with fail
  with_reducible refine Calls.mono HCS.out ?_
  rintro e w4 ⟨r, rfl, hr, hB4⟩
  have HB4 := Lib.hid (below_then HB3.out hB4)
  have HK4 := Lib.hid (HK3.out.below hB4 HK3.out.lt)
  have HR := Lib.hid hr
  have HAW := Lib.hid (claimAwake_calls w4)
  clear hB4 hr HCS HB3 HK3 y0 y1 y2 y3 y4
  cases r with
  | false =>
    go_wp2_with fail
    with_reducible refine Calls.mono HAW.out ?_
    rintro e w5 ⟨rfl, hB5⟩
    have HB5 := Lib.hid (below_then HB4.out hB5)
    clear hB5
    go_wp2
    go_ret
    exact ⟨rfl, HB5.out⟩
  | true =>
  have HN20 := Lib.hid (show n1 ≤ 20 from HR.out rfl)
  obtain ⟨y0, y1, y2, y3, y4⟩ := five_cells HK4.out
  by_cases hk0 : k = 0
  · subst hk0
    go_wp2_with fail
    with_reducible refine Calls.mono HAW.out ?_
    rintro e w5 ⟨rfl, hB5⟩
    have HB5 := Lib.hid (below_then HB4.out hB5)
    clear hB5
    go_wp2
    go_ret
    exact ⟨rfl, HB5.out⟩
  have bk0 : (k == 0) = false := by rw [beq_eq_false_iff_ne]; exact hk0
  have HK0 := Lib.hid hk0
  have hn100 : n ≤ 100 := HSH.out.1
  have HTX := Lib.hid (Texts_calls w4 A n c fs (HF.out.below HB4.out (Nat.le_refl _)) (fun f hf => Nat.le_trans (HSH.out.2 f hf) (by decide)) (by omega))
  clear HR HAW hk0
  obtain ⟨st, hst⟩ : ∃ st, st = stF fs st0 := ⟨_, rfl⟩
  rw [← hst] at HTX
  have HST := Lib.hid hst
  clear hst
  go_wp2_with fail
  with_reducible refine Calls.mono HTX.out ?_
  rintro e w5 ⟨rfl, hB5⟩
  have HB5 := Lib.hid (below_then HB4.out hB5)
  have HK5 := Lib.hid (HK4.out.below hB5 HK4.out.lt)
  clear hB5 HTX HB4 HK4 y0 y1 y2 y3 y4
  go_wp2_with fail
  obtain ⟨w6, hw6⟩ : ∃ W, W = ((w5.alloc (.cells #[.string (gD st.iss), .string (gD st.sub), .string (gD st.jti)] 30)).alloc (.cells #[.bool st.iss.isSome, .bool st.sub.isSome, .bool st.jti.isSome] 31)) := ⟨_, rfl⟩
  have hbw6 : Below w5.heap.size w5 w6 := by rw [hw6]; exact below_alloc' (below_alloc' (Below.refl w5.heap.size w5) _) _
  have hkw6 : Blk w6 w5.heap.size 30 #[.string (gD st.iss), .string (gD st.sub), .string (gD st.jti)] := by rw [hw6]; exact (Blk.new w5 _ _).alloc _
  have hlw6 : Blk w6 (w5.heap.size + 1) 31 #[.bool st.iss.isSome, .bool st.sub.isSome, .bool st.jti.isSome] := by
    rw [hw6]
    have := Blk.new (w5.alloc (.cells #[.string (gD st.iss), .string (gD st.sub), .string (gD st.jti)] 30)) 31 #[.bool st.iss.isSome, .bool st.sub.isSome, .bool st.jti.isSome]
    rwa [show (w5.alloc (.cells #[.string (gD st.iss), .string (gD st.sub), .string (gD st.jti)] 30)).heap.size = w5.heap.size + 1 from by simp] at this
  rw [← hw6]
  clear hw6
  have HB6 := Lib.hid (below_then HB5.out hbw6)
  have HK6 := Lib.hid (HK5.out.below hbw6 HK5.out.lt)
  have HG1 := Lib.hid hkw6
  have HG2 := Lib.hid hlw6
  have HFC := Lib.hid (FClone_calls w6 A n c fs (HF.out.below HB6.out (Nat.le_refl _)) (by omega))
  clear hbw6 hkw6 hlw6 HB5 HK5
  with_reducible refine Calls.mono HFC.out ?_
  rintro e w7 ⟨v7, rfl, ho7, hB7⟩
  have HN7 := Lib.hid (Blk.new w7 9 #[.string ⟨#[105, 115, 115]⟩, .string ⟨#[115, 117, 98]⟩, .string ⟨#[106, 116, 105]⟩])
  have HO7 := Lib.hid (ho7.alloc (.cells #[.string ⟨#[105, 115, 115]⟩, .string ⟨#[115, 117, 98]⟩, .string ⟨#[106, 116, 105]⟩] 9))
  have HB7 := Lib.hid (below_alloc' hB7 (.cells #[.string ⟨#[105, 115, 115]⟩, .string ⟨#[115, 117, 98]⟩, .string ⟨#[106, 116, 105]⟩] 9))
  clear ho7 hB7 HFC
  obtain ⟨i0, hi, hz0, hz1, hz2⟩ := info_parts info_fd
  have HI := Lib.hid (And.intro hi (And.intro hz0 (And.intro hz1 hz2)))
  clear hi hz0 hz1 hz2
  obtain ⟨ex, hex⟩ : ∃ ex : List Fd, ex = [⟨⟨#[105, 115, 115]⟩, k, t, b, z, A1, n1, c1, l1⟩, ⟨⟨#[115, 117, 98]⟩, k, t, b, z, A1, n1, c1, l1⟩, ⟨⟨#[106, 116, 105]⟩, k, t, b, z, A1, n1, c1, l1⟩] := ⟨_, rfl⟩
  have HEX := Lib.hid hex
  clear hex
  go_wp2
  go_loopg [7, 43] 3 (fun q u7 u43 wr => ∃ j : Nat, q + j = 3 ∧ u43 = .int .i64 j ∧ Hid (wr.ownsRow w6.heap.size 36 6 u7 (n + j) (fvs (fs ++ ex.take j))) ∧ Hid (Below w6.heap.size w6 wr) ∧ Hid (Blk wr w7.heap.size 9 #[.string ⟨#[105, 115, 115]⟩, .string ⟨#[115, 117, 98]⟩, .string ⟨#[106, 116, 105]⟩]))
  case atStart => exact ⟨0, rfl, rfl, by show World.ownsRow _ _ _ _ _ _ _; rw [List.take_zero, List.append_nil]; exact HO7.out, HB7, HN7⟩
  case round =>
    obtain ⟨j, hqj, rfl, HO, HB, HNM⟩ := hrel
    rcases (by omega : j = 0 ∨ j = 1 ∨ j = 2 ∨ j = 3) with rfl | rfl | rfl | rfl
    · obtain ⟨x0, x1, x2⟩ := three_cells HNM.out
      obtain ⟨y0, y1, y2, y3, y4⟩ := five_cells (HK6.out.below HB.out HK6.out.lt)
      go_wp2_with (at_builtin; refine wpList_append_any _ rfl (.tmp 47) (.tmp 51) 22 rfl w6.heap.size 36 i0 zF 6 72 Tryz.underlying22 HI.out.1 HI.out.2.1 HI.out.2.2.1 HI.out.2.2.2 rfl (by decide) _ (n + 0) _ rfl (HO.out.alloc _) (some ⟨wr.heap.size, 0, none⟩) 1 1 (fc ⟨⟨#[105, 115, 115]⟩, k, t, b, z, A1, n1, c1, l1⟩) rfl (reads_lit wr 6 1 (fc ⟨⟨#[105, 115, 115]⟩, k, t, b, z, A1, n1, c1, l1⟩) #[.string ⟨#[105, 115, 115]⟩, .int .i64 k, .string t, .bool b, .int .i32 z, .slice A1 n1 c1] rfl rfl _) (fc_one _) (by unfold maxLen; omega) (by omega) (below_alloc' HB.out _).size ?_; intro v3 w3 hown hg hat; have HO3 := Lib.hid hown; have HB3 := Lib.hid ((below_alloc' HB.out (.cells #[.string ⟨#[105, 115, 115]⟩, .int .i64 k, .string t, .bool b, .int .i32 z, .slice A1 n1 c1] 36)).grown hg (below_alloc' HB.out _).size (by intro q hq; exact own_block_ge HO.out q hq)); have HN3 := Lib.hid ((HNM.out.alloc (.cells #[.string ⟨#[105, 115, 115]⟩, .int .i64 k, .string t, .bool b, .int .i32 z, .slice A1 n1 c1] 36)).grown hg (own_blk_ne HO.out HNM.out (by decide))); clear hown hg hat)
      go_roundg (3 - (0 + 1))
      case measure => omega
      case rel =>
        refine ⟨0 + 1, by omega, rfl, ?_, HB3, HN3⟩
        show World.ownsRow _ _ _ _ _ _ _
        have e : fvs (fs ++ ex.take (0 + 1)) = fvs (fs ++ ex.take 0) ++ fc ⟨⟨#[105, 115, 115]⟩, k, t, b, z, A1, n1, c1, l1⟩ := by
          rw [HEX.out, fvs_app, fvs_app, List.append_assoc]
          simp [fvs]
        rw [e]
        exact HO3.out
    · obtain ⟨x0, x1, x2⟩ := three_cells HNM.out
      obtain ⟨y0, y1, y2, y3, y4⟩ := five_cells (HK6.out.below HB.out HK6.out.lt)
      go_wp2_with (at_builtin; refine wpList_append_any _ rfl (.tmp 47) (.tmp 51) 22 rfl w6.heap.size 36 i0 zF 6 72 Tryz.underlying22 HI.out.1 HI.out.2.1 HI.out.2.2.1 HI.out.2.2.2 rfl (by decide) _ (n + 1) _ rfl (HO.out.alloc _) (some ⟨wr.heap.size, 0, none⟩) 1 1 (fc ⟨⟨#[115, 117, 98]⟩, k, t, b, z, A1, n1, c1, l1⟩) rfl (reads_lit wr 6 1 (fc ⟨⟨#[115, 117, 98]⟩, k, t, b, z, A1, n1, c1, l1⟩) #[.string ⟨#[115, 117, 98]⟩, .int .i64 k, .string t, .bool b, .int .i32 z, .slice A1 n1 c1] rfl rfl _) (fc_one _) (by unfold maxLen; omega) (by omega) (below_alloc' HB.out _).size ?_; intro v3 w3 hown hg hat; have HO3 := Lib.hid hown; have HB3 := Lib.hid ((below_alloc' HB.out (.cells #[.string ⟨#[115, 117, 98]⟩, .int .i64 k, .string t, .bool b, .int .i32 z, .slice A1 n1 c1] 36)).grown hg (below_alloc' HB.out _).size (by intro q hq; exact own_block_ge HO.out q hq)); have HN3 := Lib.hid ((HNM.out.alloc (.cells #[.string ⟨#[115, 117, 98]⟩, .int .i64 k, .string t, .bool b, .int .i32 z, .slice A1 n1 c1] 36)).grown hg (own_blk_ne HO.out HNM.out (by decide))); clear hown hg hat)
      go_roundg (3 - (1 + 1))
      case measure => omega
      case rel =>
        refine ⟨1 + 1, by omega, rfl, ?_, HB3, HN3⟩
        show World.ownsRow _ _ _ _ _ _ _
        have e : fvs (fs ++ ex.take (1 + 1)) = fvs (fs ++ ex.take 1) ++ fc ⟨⟨#[115, 117, 98]⟩, k, t, b, z, A1, n1, c1, l1⟩ := by
          rw [HEX.out, fvs_app, fvs_app, List.append_assoc]
          simp [fvs]
        rw [e]
        exact HO3.out
    · obtain ⟨x0, x1, x2⟩ := three_cells HNM.out
      obtain ⟨y0, y1, y2, y3, y4⟩ := five_cells (HK6.out.below HB.out HK6.out.lt)
      go_wp2_with (at_builtin; refine wpList_append_any _ rfl (.tmp 47) (.tmp 51) 22 rfl w6.heap.size 36 i0 zF 6 72 Tryz.underlying22 HI.out.1 HI.out.2.1 HI.out.2.2.1 HI.out.2.2.2 rfl (by decide) _ (n + 2) _ rfl (HO.out.alloc _) (some ⟨wr.heap.size, 0, none⟩) 1 1 (fc ⟨⟨#[106, 116, 105]⟩, k, t, b, z, A1, n1, c1, l1⟩) rfl (reads_lit wr 6 1 (fc ⟨⟨#[106, 116, 105]⟩, k, t, b, z, A1, n1, c1, l1⟩) #[.string ⟨#[106, 116, 105]⟩, .int .i64 k, .string t, .bool b, .int .i32 z, .slice A1 n1 c1] rfl rfl _) (fc_one _) (by unfold maxLen; omega) (by omega) (below_alloc' HB.out _).size ?_; intro v3 w3 hown hg hat; have HO3 := Lib.hid hown; have HB3 := Lib.hid ((below_alloc' HB.out (.cells #[.string ⟨#[106, 116, 105]⟩, .int .i64 k, .string t, .bool b, .int .i32 z, .slice A1 n1 c1] 36)).grown hg (below_alloc' HB.out _).size (by intro q hq; exact own_block_ge HO.out q hq)); have HN3 := Lib.hid ((HNM.out.alloc (.cells #[.string ⟨#[106, 116, 105]⟩, .int .i64 k, .string t, .bool b, .int .i32 z, .slice A1 n1 c1] 36)).grown hg (own_blk_ne HO.out HNM.out (by decide))); clear hown hg hat)
      go_roundg (3 - (2 + 1))
      case measure => omega
      case rel =>
        refine ⟨2 + 1, by omega, rfl, ?_, HB3, HN3⟩
        show World.ownsRow _ _ _ _ _ _ _
        have e : fvs (fs ++ ex.take (2 + 1)) = fvs (fs ++ ex.take 2) ++ fc ⟨⟨#[106, 116, 105]⟩, k, t, b, z, A1, n1, c1, l1⟩ := by
          rw [HEX.out, fvs_app, fvs_app, List.append_assoc]
          simp [fvs]
        rw [e]
        exact HO3.out
    · have hall : ex.take 3 = ex := by rw [HEX.out]; rfl
      rw [hall] at HO
      obtain ⟨A9, c9, rfl, hc9, _⟩ := own_form HO.out
      have HB9 := Lib.hid (below_then HB6.out HB.out)
      have hsl : ∀ f ∈ fs ++ ex, SL wr f.A f.n f.l := by
        intro f hf
        rcases List.mem_append.1 hf with hf | hf
        · exact (HF.out.2 f hf).below HB9.out (Nat.le_refl _)
        · rw [HEX.out] at hf
          simp only [List.mem_cons, List.not_mem_nil, or_false] at hf
          rcases hf with rfl | rfl | rfl <;> exact HS.out.below HB9.out (Nat.le_refl _)
      have hnl : ∀ f ∈ fs ++ ex, f.n ≤ 100000 := by
        intro f hf
        rcases List.mem_append.1 hf with hf | hf
        · exact Nat.le_trans (HSH.out.2 f hf) (by decide)
        · rw [HEX.out] at hf
          simp only [List.mem_cons, List.not_mem_nil, or_false] at hf
          have := HN20.out
          rcases hf with rfl | rfl | rfl <;> (show n1 ≤ 100000; omega)
      have hmore : stF (fs ++ ex) st0 = st := by
        rw [stF_more fs ex st0 (by
          intro f hf
          rw [HEX.out] at hf
          simp only [List.mem_cons, List.not_mem_nil, or_false] at hf
          rcases hf with rfl | rfl | rfl <;> exact HK0.out)]
        exact HST.out.symm
      have htx := Texts_calls wr A9 (n + 3) c9 (fs ++ ex) (fl_of HO.out hsl) hnl (by omega)
      rw [hmore] at htx
      have HTX := Lib.hid htx
      have HG1 := Lib.hid (HG1.out.below HB.out HG1.out.lt)
      have HG2 := Lib.hid (HG2.out.below HB.out HG2.out.lt)
      clear htx hmore hnl hsl hall hc9
      go_wp2_with fail
      with_reducible refine Calls.mono HTX.out ?_
      rintro e w10 ⟨rfl, hB10⟩
      have HB10 := Lib.hid (below_then HB9.out hB10)
      have HG1 := Lib.hid (HG1.out.below hB10 HG1.out.lt)
      have HG2 := Lib.hid (HG2.out.below hB10 HG2.out.lt)
      have hw11 := below_alloc' (below_alloc' (Below.refl w10.heap.size w10) (.cells #[.string (gD st.iss), .string (gD st.sub), .string (gD st.jti)] 30)) (.cells #[.bool st.iss.isSome, .bool st.sub.isSome, .bool st.jti.isSome] 31)
      obtain ⟨x0, x1, x2⟩ := three_cells (HG1.out.below hw11 HG1.out.lt)
      obtain ⟨y0, y1, y2⟩ := three_cells (HG2.out.below hw11 HG2.out.lt)
      have HB11 := Lib.hid (below_then HB10.out hw11)
      have HAW := Lib.hid (claimAwake_calls ((w10.alloc (.cells #[.string (gD st.iss), .string (gD st.sub), .string (gD st.jti)] 30)).alloc (.cells #[.bool st.iss.isSome, .bool st.sub.isSome, .bool st.jti.isSome] 31)))
      have heq1 := eq3s (gD st.iss) (gD st.sub) (gD st.jti)
      have heq2 := eq3b st.iss.isSome st.sub.isSome st.jti.isSome
      clear hB10 HTX HB9 HB10 hw11
      go_wp2_with fail
      with_reducible refine Calls.mono HAW.out ?_
      rintro e w12 ⟨rfl, hB12⟩
      have HB12 := Lib.hid (HB11.out.trans (hB12.mono HB11.out.size))
      clear hB12
      go_wp2
      go_ret
      exact ⟨rfl, HB12.out⟩
end Go.Proofs.YtlahgmfpdfblkaaGreat.Cl
