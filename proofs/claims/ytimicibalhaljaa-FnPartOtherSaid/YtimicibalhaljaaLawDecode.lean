/- The walk of the law FnPartDecode; no condition on the lengths. -/
import Derived.Test.YtimicibalhaljaaPartEnc
set_option linter.unusedVariables false
set_option linter.unusedSimpArgs false
namespace Go.Proofs.Ytimicibalhaljaa.B64
open Go.RowKit Go.Proofs.Ytimicibalhaljaa.K Go.Proofs.Ytimicibalhaljaa.Own
theorem encL_le (al : List UInt8) (p : Bool) : ∀ (n : Nat) (bs : List UInt8), bs.length ≤ n → (encL al p bs).length ≤ 2 * bs.length + 4 := by
  intro n
  induction n with
  | zero =>
    intro bs h
    obtain rfl : bs = [] := List.eq_nil_of_length_eq_zero (by omega)
    simp [encL]
  | succ n ih =>
    intro bs h
    match bs, h with
    | [], _ => simp [encL]
    | [a], _ => cases p <;> simp [encL, let4]
    | [a, b], _ => cases p <;> simp [encL, let4]
    | a :: b :: c :: r, h =>
      have := ih r (by simp at h; omega)
      simp [encL, let4] at this ⊢
      omega
theorem DecodedText_yes (w : World) (t out : List UInt8) (hn : t.length ≤ 100000) (hnl : ∀ c ∈ t, c ≠ 10 ∧ c ≠ 13) (hd : partDec t = some out) :
    Calls Try.prog 21 #[.string ⟨t.toArray⟩] w (DecYes w out) := (DecodedText_calls w t hn hnl).mono fun _ _ h => h.yes hd
theorem DecodedText_no (w : World) (t : List UInt8) (hn : t.length ≤ 100000) (hnl : ∀ c ∈ t, c ≠ 10 ∧ c ≠ 13) (hd : partDec t = none) :
    Calls Try.prog 21 #[.string ⟨t.toArray⟩] w (DecNo w) := (DecodedText_calls w t hn hnl).mono fun _ _ h => h.no hd
theorem PartEncoded_n (w : World) (A : Option Addr) (n c m : Nat) (bs : List UInt8) (url p : Bool) (h : RB w A n bs) (hc : n ≤ c) (hn : n ≤ 100000) (hm : (encL (alFor url) p bs).length = m) :
    Calls Try.prog 20 #[.slice A n c, .bool url, .bool p] w (OwnN w (encL (alFor url) p bs) m) := (PartEncoded_calls w A n c bs url p h hc hn).mono fun _ _ h => OwnN.of hm h
theorem partDec_for (url p : Bool) (bs : List UInt8) : partDec (encL (alFor url) p bs) = some bs := by
  cases url
  · exact partDec_std p bs
  · exact partDec_url p bs
theorem enc_nl_for (url p : Bool) (bs : List UInt8) : ∀ c ∈ encL (alFor url) p bs, c ≠ 10 ∧ c ≠ 13 := by
  cases url
  · exact enc_nl alStd p std_nl bs
  · exact enc_nl alURL p url_nl bs
theorem PartSame_yes (w : World) (A B : Option Addr) (l : List UInt8) (n c k d : Nat) (h : RB w A n l) (h' : RB w B k l) :
    Calls Try.prog 17 #[.slice A n c, .slice B k d] w fun e w' => e = .returned (.bool true) ∧ w = w' := by
  have := PartSame_calls w A B l l n c k d h h'
  rwa [beq_self_eq_true] at this
set_option maxRecDepth 100000 in
set_option maxHeartbeats 4000000 in
theorem FnPartDecode_calls (w : World) (m : Nat) (A : Option Addr) (c : Nat) (bs : List UInt8) (hrb : RB w A m bs) (hcap : m ≤ c) :
    Calls Try.prog 5 #[.slice A m c] w fun e w' => e = .returned (.bool true) ∧ Below w.heap.size w w' := by
  have HRB := Lib.hid hrb
  have HC := Lib.hid hcap
  clear hrb hcap
  by_cases h1 : m > 2147483647
  · go_enter Try.func5, Try.ntmps5
    go_wp2
    go_ret
    exact ⟨rfl, Below.refl _ _⟩
  have h1i : ¬ (2147483647 : Int) < (m : Int) := by omega
  have hB0 : Below w.heap.size w (w.alloc (.cells #[.slice A m c] 22)) := below_alloc' (Below.refl _ _) _
  have HB0 := Lib.hid hB0
  clear hB0
  by_cases h2 : m ≤ 2000
  · have HS := Lib.hid (partShort_lit w [(A, m, c)] 1 #[.slice A m c] rfl rfl 22 (by decide) true (by simp [h2]))
    go_enter Try.func5, Try.ntmps5
    go_wp2_with fail
    refine HS.out.mono ?_
    rintro e w1 ⟨rfl, rfl⟩
    go_wp2
    go_loopg [22] 2 (fun k i wr => ∃ j : Nat, k + j = 2 ∧ i = .int .i64 (j : Nat) ∧ Hid (Blk wr (w.heap.size + 1) 4 #[.bool false, .bool true]) ∧ Hid (Below w.heap.size w wr))
    case atStart =>
      refine ⟨0, rfl, rfl, ?_, below_alloc' HB0.out _⟩
      have := Blk.new (w.alloc (.cells #[.slice A m c] 22)) 4 #[.bool false, .bool true]
      rwa [show (w.alloc (.cells #[.slice A m c] 22)).heap.size = w.heap.size + 1 from by simp] at this
    case round =>
      obtain ⟨j, hkj, rfl, HBL, HB⟩ := hrel
      by_cases hj : j < 2
      · obtain ⟨url, hurl⟩ : ∃ url : Bool, wr.cell? ⟨w.heap.size + 1, j, none⟩ = some (.bool url) := by
          rcases (by omega : j = 0 ∨ j = 1) with rfl | rfl
          · exact ⟨false, by rw [HBL.out.cell]; rfl⟩
          · exact ⟨true, by rw [HBL.out.cell]; rfl⟩
        have hji : (j : Int) < 2 := by omega
        obtain ⟨wo, hwo⟩ : ∃ wo, wo = wr := ⟨_, rfl⟩
        subst hwo
        go_wp2
        have hbi : Blk (wo.alloc (.cells #[.bool false, .bool true] 4)) wo.heap.size 4 #[.bool false, .bool true] := Blk.new _ _ _
        have HBI := Lib.hid hbi
        have HBL1 := Lib.hid (HBL.out.alloc (.cells #[.bool false, .bool true] 4))
        have HBO := Lib.hid (below_alloc' HB.out (.cells #[.bool false, .bool true] 4))
        have HGT := Lib.hid HBL.out.lt
        clear hbi
        go_loopg [28] 2 (fun k i wr2 => ∃ j2 : Nat, k + j2 = 2 ∧ i = .int .i64 (j2 : Nat) ∧ Hid (Blk wr2 wo.heap.size 4 #[.bool false, .bool true]) ∧ Hid (Blk wr2 (w.heap.size + 1) 4 #[.bool false, .bool true]) ∧ Hid (Below w.heap.size w wr2))
        case atStart => exact ⟨0, rfl, rfl, HBI, HBL1, HBO⟩
        case round =>
          clear HBI HBL1 HBO
          obtain ⟨j2, hkj2, rfl, HBI, HBL1, HBO⟩ := hrel
          by_cases hj2 : j2 < 2
          · obtain ⟨pd, hpd⟩ : ∃ pd : Bool, wr.cell? ⟨wo.heap.size, j2, none⟩ = some (.bool pd) := by
              rcases (by omega : j2 = 0 ∨ j2 = 1) with rfl | rfl
              · exact ⟨false, by rw [HBI.out.cell]; rfl⟩
              · exact ⟨true, by rw [HBI.out.cell]; rfl⟩
            have hj2i : (j2 : Int) < 2 := by omega
            obtain ⟨T, hT⟩ : ∃ T, T = encL (alFor url) pd bs := ⟨_, rfl⟩
            obtain ⟨N, hN⟩ : ∃ N, N = T.length := ⟨_, rfl⟩
            have hNb : N ≤ 100000 := by
              have := encL_le (alFor url) pd _ bs (Nat.le_refl _)
              rw [← hT, ← hN, ← HRB.out.len] at this
              omega
            have HNL := Lib.hid (fun c hc => enc_nl_for url pd bs c (by rw [← hT]; exact hc) : ∀ c ∈ T, c ≠ 10 ∧ c ≠ 13)
            have HPD := Lib.hid (by rw [hT]; exact partDec_for url pd bs : partDec T = some bs)
            have HP1 := Lib.hid (PartEncoded_n wr A m c N bs url pd (HRB.out.below HBO.out (Nat.le_refl _)) HC.out (by omega) (by rw [← hT, hN]))
            rw [← hT] at HP1
            have HT := Lib.hid (And.intro hT hN)
            clear hT hN
            go_wp2_with fail
            refine HP1.out.mono ?_
            rintro e w3 ⟨A3, c3, rfl, hc3, ho3, hB3⟩
            have HR3 := Lib.hid (Reads.of_own ho3 : RB w3 A3 N T)
            have HB3 := Lib.hid hB3
            have HC3 := Lib.hid hc3
            clear ho3 hB3 hc3
            have HP2 := Lib.hid (partOwn_n w3 A3 N c3 T HR3.out (by omega))
            go_wp2_with fail
            refine HP2.out.mono ?_
            rintro e w4 ⟨A4, c4, rfl, hc4, ho4, hB4⟩
            have HP3 := Lib.hid (Decoded_yes w4 A4 N c4 T bs (Reads.of_own ho4) hc4 hNb HNL.out HPD.out)
            have HB34 := Lib.hid hB4
            clear ho4 hB4 hc4
            go_wp2_with fail
            refine HP3.out.mono ?_
            rintro e w5 ⟨A5, c5, rfl, hc5, ho5, hB5⟩
            have HR5 := Lib.hid (Reads.of_own ho5 : RB w5 A5 bs.length bs)
            have HB45 := Lib.hid hB5
            have HB35 := Lib.hid (below_then HB34.out hB5)
            clear ho5 hB5
            have hcs := conv_string (P := Try.prog) (w := w5) (c := c3) Try.underlying22 Try.underlying5 Try.underlying9 (HR3.out.below HB35.out (Nat.le_refl _))
            have HP4 := Lib.hid (DecodedText_yes w5 T bs (by rw [← HT.out.2]; exact hNb) HNL.out HPD.out)
            go_wp2_with fail
            refine HP4.out.mono ?_
            rintro e w6 ⟨A6, c6, rfl, hc6, ho6, hB6⟩
            have HB36 := Lib.hid (below_then HB35.out hB6)
            have HB06 := Lib.hid (HBO.out.trans ((below_then HB3.out HB36.out).mono HBO.out.size))
            have HR6 := Lib.hid (Reads.of_own ho6 : RB w6 A6 bs.length bs)
            have HR56 := Lib.hid (RB.below HR5.out hB6 (Nat.le_refl _))
            have HRA := Lib.hid (HRB.out.below HB06.out (Nat.le_refl _))
            have HW := Lib.hid (below_then HB3.out HB36.out)
            clear ho6 hB6 hcs
            have HS1 := Lib.hid (PartSame_yes w6 A5 A bs bs.length c5 m c HR56.out HRA.out)
            have HS2 := Lib.hid (PartSame_yes w6 A6 A bs bs.length c6 m c HR6.out HRA.out)
            go_wp2_with fail
            refine HS1.out.mono ?_
            rintro e w7 ⟨rfl, rfl⟩
            go_wp2_with fail
            refine HS2.out.mono ?_
            rintro e w7 ⟨rfl, rfl⟩
            go_wp2
            go_roundg (2 - (j2 + 1))
            case measure => omega
            case rel => exact ⟨j2 + 1, by omega, by go_num, HBI.out.below HW.out HBI.out.lt, HBL1.out.below HW.out HBL1.out.lt, HB06⟩
          · obtain rfl : j2 = 2 := by omega
            go_wp2
            go_roundg (2 - (j + 1))
            case measure => omega
            case rel => exact ⟨j + 1, by omega, by go_num, HBL1, HBO⟩
      · obtain rfl : j = 2 := by omega
        have HAW := Lib.hid (partAwake_calls wr)
        go_wp2_with fail
        refine HAW.out.mono ?_
        rintro e w2 ⟨rfl, hB2⟩
        have HB2 := Lib.hid (below_then HB.out hB2)
        clear hB2
        go_wp2
        go_ret
        exact ⟨rfl, HB2.out⟩
  · have HS := Lib.hid (partShort_lit w [(A, m, c)] 1 #[.slice A m c] rfl rfl 22 (by decide) false (by simp [h2]))
    have HAW := Lib.hid (partAwake_calls (w.alloc (.cells #[.slice A m c] 22)))
    go_enter Try.func5, Try.ntmps5
    go_wp2_with fail
    refine HS.out.mono ?_
    rintro e w1 ⟨rfl, rfl⟩
    go_wp2_with fail
    refine HAW.out.mono ?_
    rintro e w2 ⟨rfl, hB2⟩
    have HB2 := Lib.hid (below_then HB0.out hB2)
    clear hB2
    go_wp2
    go_ret
    exact ⟨rfl, HB2.out⟩
end Go.Proofs.Ytimicibalhaljaa.B64
