/- The walk of the reference's PartDecoded; no condition but the size. -/
import Derived.Test.YtimicibalhaljaaTextForm
import Derived.Test.YtimicibalhaljaaPartAwake
set_option linter.unusedVariables false
set_option linter.unusedSimpArgs false
namespace Go.Proofs.Ytimicibalhaljaa.B64
open Go.RowKit Go.Proofs.Ytimicibalhaljaa.K Go.Proofs.Ytimicibalhaljaa.Own
def PDP (w : World) (f : UInt8 → Nat) (p : Bool) (t : List UInt8) (e : Ending) (w' : World) : Prop :=
  (∃ out, refDec f p t = some out ∧ DecYes w out e w') ∨ (refDec f p t = none ∧ DecNo w e w')
def SRel (w : World) (f : UInt8 → Nat) (t : List UInt8) (m k : Nat) (s : SS) (L : Nat) (u7 u8 u9 u60 : Value) (wr : World) : Prop :=
  u8 = .int .u32 s.bits ∧ u9 = .int .i64 s.have_ ∧ u60 = .int .i64 k ∧ k ≤ m ∧ Hid (sfold f ⟨0, 0, []⟩ (t.take k) = some s) ∧ Hid ((s.have_ = 0 ∨ s.have_ = 2 ∨ s.have_ = 4 ∨ s.have_ = 6) ∧ L = s.out.length ∧ L ≤ k ∧ s.bits < 4294967296) ∧ Hid (wr.ownsRow w.heap.size 5 1 u7 L (bys s.out)) ∧ Hid (Below w.heap.size w wr)
theorem sfold_step (f : UInt8 → Nat) (s0 : SS) (t r : List UInt8) : sfold f s0 (t ++ r) = (sfold f s0 t).bind (fun s => sfold f s r) := by
  induction t generalizing s0 with
  | nil => rfl
  | cons c t ih =>
    rw [List.cons_append, sfold, sfold]
    split
    · exact ih _
    · rfl
theorem sfold_next {f : UInt8 → Nat} {s0 s : SS} {t : List UInt8} {k : Nat} (h : sfold f s0 (t.take k) = some s) (hk : k < t.length) (hc : f (bt t k) < 64) : sfold f s0 (t.take (k + 1)) = some (sstep s (f (bt t k))) := by
  rw [List.take_succ_eq_append_getElem hk, sfold_step, h, ← bt_get _ _ hk]
  simp [sfold, hc]
theorem sfold_bad {f : UInt8 → Nat} {s0 s : SS} {t : List UInt8} {k m : Nat} (h : sfold f s0 (t.take k) = some s) (hk : k < m) (hm : m ≤ t.length) (hc : ¬ f (bt t k) < 64) : sfold f s0 (t.take m) = none := by
  have e : t.take m = t.take k ++ (bt t k :: (t.drop (k + 1)).take (m - (k + 1))) := by
    rw [bt_get _ _ (by omega)]
    rw [← List.take_append_drop k (t.take m), List.take_take, Nat.min_eq_left (by omega), List.drop_take]
    rw [List.drop_eq_getElem_cons (by omega : k < t.length)]
    rw [show m - k = (m - (k + 1)) + 1 by omega, List.take_succ_cons]
  rw [e, sfold_step, h]
  simp [sfold, hc]
theorem u32_shift_in (b v : Nat) (hv : v < 64) : bits .or .u32 ((b : Int) * 64 % 4294967296) (v : Int) = ((sbits b v : Nat) : Int) := by
  rw [show (b : Int) * 64 % 4294967296 = ((b * 64 % 4294967296 : Nat) : Int) by omega, u32_or_nat _ _ (by omega) (by omega), nat_join 6 _ _ (by omega) (by omega)]
  unfold sbits
  congr 1
  omega
set_option maxRecDepth 100000 in
set_option maxHeartbeats 4000000 in
theorem PDP_calls (w : World) (A : Option Addr) (n c : Nat) (t : List UInt8) (h : RB w A n t) (hc : n ≤ c) (hn : n ≤ 100000) :
    Calls Try.prog 22 #[.slice A n c] w (PDP w (fL (alFor (!isStd t))) (isPad t) t) := by
  have HF := Lib.hid (PartForm_calls w A n c t h hc (by omega))
  obtain ⟨url, hurl⟩ : ∃ b, b = !isStd t := ⟨_, rfl⟩
  obtain ⟨p, hp⟩ : ∃ b, b = isPad t := ⟨_, rfl⟩
  rw [← hurl, ← hp] at HF
  rw [← hurl, ← hp]
  obtain ⟨f, hf⟩ : ∃ f, f = fL (alFor url) := ⟨_, rfl⟩
  have HFF := Lib.hid hf
  rw [← hf]
  clear hf
  have HP := Lib.hid hp
  have HR := Lib.hid h
  clear hurl hp h
  go_enter Try.func22, Try.ntmps22
  go_wp2_with fail
  refine HF.out.mono ?_
  rintro e w1 ⟨rfl, hB⟩
  have HB := Lib.hid hB
  have HR1 := Lib.hid (HR.out.below hB (Nat.le_refl _))
  clear hB HF
  have hlen := HR.out.len
  have HL := Lib.hid hlen
  clear hlen
  have hne : Hid (p = true → ∃ k, n = k + 1 ∧ bt t k = 61) := Lib.hid (by
    intro hpt
    have hl := HL.out
    cases n with
    | zero =>
      have : t = [] := List.eq_nil_of_length_eq_zero hl.symm
      rw [HP.out, this] at hpt; cases hpt
    | succ k =>
      refine ⟨k, rfl, ?_⟩
      have := HP.out
      rw [hpt, isPad_last t k hl.symm] at this
      simpa using this.symm)
  go_upto_block 0 with (fail)
  go_cut [6] (fun u6 wc => ∃ m : Nat, u6 = .int .i64 m ∧ Hid (m = t.length - (if p then strip t else 0)) ∧ wc = w1)
  case first =>
    go_wp2_with fail
    cases p with
    | false =>
      go_loopg [6] 3 (fun g u6 wr => u6 = .int .i64 n ∧ wr = w1)
      case atStart => exact ⟨rfl, rfl⟩
      case round =>
        obtain ⟨rfl, hw⟩ := hrel
        subst hw
        go_wp2
        go_meet
        case rel => exact ⟨n, rfl, Lib.hid (by rw [← HL.out]; rfl), rfl⟩
    | true =>
      obtain ⟨n1, rfl, hl61⟩ := hne.out rfl
      have HE := Lib.hid hl61
      clear hne hl61
      go_loopg [6] 3 (fun g u6 wr => ∃ d m : Nat, g + d = 3 ∧ d ≤ 2 ∧ m + d = n1 + 1 ∧ u6 = .int .i64 m ∧ Hid (d = 2 → bt t (n1 - 1) = 61) ∧ wr = w1)
      case atStart => exact ⟨0, n1 + 1, rfl, by omega, rfl, rfl, (fun h => by cases h), rfl⟩
      case round =>
        obtain ⟨d, m, hgd, hd2, hmd, rfl, h2, hw⟩ := hrel
        subst hw
        by_cases hd0 : d = 0
        · subst hd0
          obtain rfl : m = n1 + 1 := by omega
          obtain ⟨ad, rfl, hcl⟩ := HR1.out.bt (show n1 < n1 + 1 by omega)
          have hcl' : wr.cell? (ad.add n1) = some (.int .u8 61) := by rw [hcl, HE.out]; rfl
          have hm1 : ((n1 : Int) + 1 - 1) = (n1 : Int) := by omega
          have hda : decide ((0 : Int) < (n1 : Int) + 1) = true := decide_eq_true (by omega)
          have hdb : decide ((n1 : Int) + 1 - 2 < (n1 : Int) + 1) = true := decide_eq_true (by omega)
          clear hcl
          go_wp2
          go_roundg 2
          case measure => omega
          case rel => exact ⟨1, n1, rfl, by omega, by omega, by go_num, (fun h => by cases h), rfl⟩
        · by_cases hd1 : d = 1
          · subst hd1
            obtain rfl : m = n1 := by omega
            by_cases hm0 : m = 0
            · subst hm0
              go_wp2
              go_meet
              case rel =>
                refine ⟨0, rfl, Lib.hid ?_, rfl⟩
                have := HL.out
                have e1 : bt t (t.length - 1) = 61 := by rw [← this]; exact HE.out
                simp only [↓reduceIte]
                rw [strip, if_pos e1]
                split <;> omega
            · obtain ⟨j, rfl⟩ : ∃ j, m = j + 1 := ⟨m - 1, by omega⟩
              obtain ⟨ad, rfl, hcl⟩ := HR1.out.bt (show j < j + 1 + 1 by omega)
              have hm1 : ((j : Int) + 1 - 1) = (j : Int) := by omega
              have hda : decide ((0 : Int) < (j : Int) + 1) = true := decide_eq_true (by omega)
              have hdb : decide ((j : Int) + 1 + 1 - 2 < (j : Int) + 1) = true := decide_eq_true (by omega)
              obtain ⟨q, hq⟩ : ∃ q, q = (bt t j).toNat := ⟨_, rfl⟩
              rw [← hq] at hcl
              have HQ := Lib.hid hq
              clear hq
              by_cases hq61 : q = 61
              · subst hq61
                have hcl' : wr.cell? (ad.add j) = some (.int .u8 61) := hcl
                clear hcl
                go_wp2
                go_roundg 1
                case measure => omega
                case rel => exact ⟨2, j, rfl, by omega, by omega, by go_num, (fun _ => by show bt t j = 61; exact UInt8.toNat_inj.1 HQ.out.symm), rfl⟩
              · have hb61 : ((q : Int) == 61) = false := by rw [beq_eq_false_iff_ne]; omega
                have H61 := Lib.hid hq61
                clear hq61
                go_wp2
                go_meet
                case rel =>
                  refine ⟨j + 1, by go_num, Lib.hid ?_, rfl⟩
                  have := HL.out
                  have e1 : bt t (t.length - 1) = 61 := by rw [← this]; exact HE.out
                  have e2 : ¬ bt t (t.length - 2) = 61 := by
                    rw [← this]
                    intro e
                    exact H61.out (by rw [HQ.out]; rw [show j + 1 + 1 - 2 = j by omega] at e; rw [e]; rfl)
                  simp only [↓reduceIte]
                  rw [strip, if_pos e1, if_neg e2]
                  omega
          · obtain rfl : d = 2 := by omega
            have hm1 : m + 1 = n1 := by omega
            subst hm1
            have hdb : decide ((m : Int) + 1 + 1 - 2 < (m : Int)) = false := decide_eq_false (by omega)
            have hfin : Hid (m = t.length - (if true then strip t else 0)) := Lib.hid (by
              have := HL.out
              have e1 : bt t (t.length - 1) = 61 := by rw [← this]; exact HE.out
              have e2 : bt t (t.length - 2) = 61 := by rw [← this]; exact h2.out rfl
              simp only [↓reduceIte]
              rw [strip, if_pos e1, if_pos e2]
              omega)
            by_cases hm0 : m = 0
            · subst hm0
              go_wp2
              go_meet
              case rel => exact ⟨0, rfl, hfin, rfl⟩
            · have hda : decide ((0 : Int) < (m : Int)) = true := decide_eq_true (by omega)
              go_wp2
              go_meet
              case rel => exact ⟨m, rfl, hfin, rfl⟩
  case rest =>
    obtain ⟨m, rfl, hm, hw⟩ := hcut
    subst hw
    have hmn : m ≤ n := by have := hm.out; have := HL.out; omega
    obtain ⟨qm, hqm⟩ : ∃ q, q = m % 4 := ⟨_, rfl⟩
    obtain ⟨qn, hqn⟩ : ∃ q, q = n % 4 := ⟨_, rfl⟩
    have hmodm : Int.tmod (m : Int) 4 = (qm : Int) := by rw [Int.tmod_eq_emod_of_nonneg (by omega), hqm]; rfl
    have hmodn : Int.tmod (n : Int) 4 = (qn : Int) := by rw [Int.tmod_eq_emod_of_nonneg (by omega), hqn]; rfl
    have href : Hid (refDec f p t = if qm = 1 ∨ (p = true ∧ qn ≠ 0) then none else sOut f 0 [] (t.take m)) := Lib.hid (by
      rw [refDec, hqm, hqn, hm.out, HL.out])
    obtain ⟨bad, hbad⟩ : ∃ b, b = decide (qm = 1 ∨ (p = true ∧ qn ≠ 0)) := ⟨_, rfl⟩
    have HBD := Lib.hid hbad
    clear hqm hqn hne hm
    go_upto_region 5 with (fail)
    go_cut [54] (fun u wx => u = .bool bad ∧ wx = wc)
    case first =>
      by_cases h1 : qm = 1
      · subst h1
        go_wp2
        go_meet
        case rel => exact ⟨by rw [hbad]; simp, rfl⟩
      · have hb1 : ((qm : Int) == 1) = false := by rw [beq_eq_false_iff_ne]; omega
        cases p with
        | false =>
          go_wp2
          go_meet
          case rel => exact ⟨by rw [hbad, decide_eq_false (by simp [h1])], rfl⟩
        | true =>
          by_cases h2 : qn = 0
          · subst h2
            go_wp2
            go_meet
            case rel => exact ⟨by rw [hbad, decide_eq_false (by simp [h1])], rfl⟩
          · have hb2 : ((qn : Int) != 0) = true := by rw [bne_iff_ne]; omega
            go_wp2
            go_meet
            case rel => exact ⟨by rw [hbad]; simp [h2], rfl⟩
    case rest =>
      obtain ⟨rfl, hw⟩ := hcut
      subst hw
      cases bad with
      | true =>
        have hb := of_decide_eq_true HBD.out.symm
        have HNO : Hid (refDec f p t = none) := Lib.hid (by rw [href.out, if_pos hb])
        clear hbad hb
        go_wp2
        exact bodyPost_ret (v := .tuple #[.slice none 0 0, .bool false]) (by kernel_rfl) rfl (Or.inr ⟨HNO.out, rfl, HB.out⟩)
      | false =>
        have hb := of_decide_eq_false HBD.out.symm
        have HSO : Hid (refDec f p t = sOut f 0 [] (t.take m)) := Lib.hid (by rw [href.out, if_neg hb])
        clear hbad hb HBD href hmodm hmodn
        obtain ⟨i0, hi, hz0, hz1, hz2⟩ := info_parts info_u8
        have HI := Lib.hid (And.intro hi (And.intro hz0 (And.intro hz1 hz2)))
        obtain ⟨A', hch, hrh⟩ := cut_h (P := Try.prog) Try.underlying22 hi hz1 .i64 HR.out hc (m : Int) m rfl hmn
        have hr2 : RB w A' m (t.take m) := by
          show Reads _ _ _ _ _
          rw [Nat.mul_one] at hrh
          simpa [bys, List.map_take] using hrh
        have HR2 := Lib.hid hr2
        clear hr2 hrh hi hz0 hz1 hz2 hc
        go_wp2
        go_loopg [7, 8, 9, 60] m (fun g u7 u8 u9 u60 wr => ∃ k s L, g + k = m ∧ SRel w f t m k s L u7 u8 u9 u60 wr)
        case atStart =>
          exact ⟨0, ⟨0, 0, []⟩, 0, rfl, rfl, rfl, rfl, Nat.zero_le _, rfl, ⟨Or.inl rfl, rfl, Nat.le_refl _, by decide⟩, own_base (own_empty wc 5 1) HB.out.size, below_alloc' HB.out _⟩
        case round =>
          obtain ⟨k, s, L, hgk, rfl, rfl, rfl, hkm, HS, HQ, HO, HB2⟩ := hrel
          by_cases hlt : k < m
          · have hr3 := HR2.out.below HB2.out (Nat.le_refl _)
            obtain ⟨ad, rfl, hcl⟩ := hr3.bt hlt
            have hbt : bt (t.take m) k = bt t k := by
              unfold bt; rw [List.getD_eq_getElem?_getD, List.getD_eq_getElem?_getD, List.getElem?_take_of_lt hlt]
            rw [hbt] at hcl
            obtain ⟨c0, hc0⟩ : ∃ c0, c0 = bt t k := ⟨_, rfl⟩
            rw [← hc0] at hcl
            have HC0 := Lib.hid hc0
            have HPV := Lib.hid (partValue_calls wr c0 url)
            rw [← HFF.out] at HPV
            clear hc0 hbt hr3
            by_cases hv : f c0 < 64
            · have hval : valOf f c0 = .tuple #[.int .u32 (f c0 : Nat), .bool true] := by rw [valOf, if_pos hv, decide_eq_true hv]
              rw [hval] at HPV
              obtain ⟨v, hvv⟩ : ∃ v, v = f c0 := ⟨_, rfl⟩
              rw [← hvv] at HPV hv
              have HVV := Lib.hid hvv
              clear hval hvv
              obtain ⟨sb, sh, so⟩ := s
              have hnx := sfold_next HS.out (by have := HL.out; omega) (by rw [← HC0.out, ← HVV.out]; exact hv)
              rw [← HC0.out, ← HVV.out] at hnx
              have HNX := Lib.hid hnx
              obtain ⟨N, hN⟩ : ∃ N, N = sbits sb v := ⟨_, rfl⟩
              have hor := u32_shift_in sb v hv
              rw [← hN] at hor
              have HN := Lib.hid hN
              have hNb : N < 4294967296 := by rw [hN]; unfold sbits; omega
              clear hnx hN
              go_wp2_with fail
              refine HPV.out.mono ?_
              rintro e w3 ⟨rfl, rfl⟩
              clear HPV
              have hsh := HQ.out.1
              rcases hsh with h0 | h0 | h0 | h0
              · have h0' : sh = 0 := h0
                subst h0'
                clear h0
                go_wp2
                go_roundg (m - (k + 1))
                case measure => omega
                case rel =>
                  refine ⟨k + 1, ⟨N, 6, so⟩, L, by omega, rfl, rfl, by go_num, by omega, ?_, ?_, HO, HB2⟩
                  · show _ = _
                    rw [HNX.out, sstep0, HN.out]
                  · exact ⟨Or.inr (Or.inr (Or.inr rfl)), HQ.out.2.1, by have := HQ.out.2.2.1; omega, hNb⟩
              · have h0' : sh = 2 := h0
                subst h0'
                clear h0
                obtain ⟨bb, hbb⟩ : ∃ bb, bb = UInt8.ofNat (N / 1) := ⟨_, rfl⟩
                have hby : (N : Int) % 256 = ((bb.toNat : Nat) : Int) := by rw [hbb]; simp
                have HBB := Lib.hid hbb
                have hLk : L ≤ 100000 := by have := HQ.out.2.2.1; omega
                clear hbb
                go_wp2_with (at_builtin; refine wpList_append_any _ rfl (.tmp 82) (.tmp 87) 22 rfl w.heap.size 5 i0 (.int .u8 0) 1 1 Try.underlying22 HI.out.1 HI.out.2.1 HI.out.2.2.1 HI.out.2.2.2 rfl (by decide) _ L _ rfl (World.ownsRow.alloc HO.out _) (some ⟨wr.heap.size, 0, none⟩) 1 1 (bys [bb]) rfl (rb_lit wr [bb] 1 _ rfl rfl _) (bys_one _) (by unfold maxLen; omega) (by omega) (by have := HB2.out.size; simp; omega) ?_; intro v3 w3 hown3 hg3 hat3; have HO3 := Lib.hid hown3; have HB3 := Lib.hid ((below_alloc' HB2.out _).grown hg3 (by have := HB2.out.size; simp; omega) (by intro k hk; exact own_block_ge HO.out k hk)); clear hown3 hg3 hat3)
                go_roundg (m - (k + 1))
                case measure => omega
                case rel =>
                  refine ⟨k + 1, ⟨N, 0, so ++ [bb]⟩, L + 1, by omega, rfl, rfl, by go_num, by omega, ?_, ?_, ?_, HB3⟩
                  · show _ = _
                    rw [HNX.out, sstep2, ← HN.out, ← HBB.out]
                  · exact ⟨Or.inl rfl, by have := HQ.out.2.1; simp only [List.length_append, List.length_singleton] at this ⊢; omega, by have := HQ.out.2.2.1; omega, hNb⟩
                  · show World.ownsRow _ _ _ _ _ _ _
                    rw [bys_append]
                    exact HO3.out
              · have h0' : sh = 4 := h0
                subst h0'
                clear h0
                obtain ⟨bb, hbb⟩ : ∃ bb, bb = UInt8.ofNat (N / 4) := ⟨_, rfl⟩
                have hby : (N : Int) / 4 % 256 = ((bb.toNat : Nat) : Int) := by rw [hbb]; simp
                have HBB := Lib.hid hbb
                have hLk : L ≤ 100000 := by have := HQ.out.2.2.1; omega
                clear hbb
                go_wp2_with (at_builtin; refine wpList_append_any _ rfl (.tmp 82) (.tmp 87) 22 rfl w.heap.size 5 i0 (.int .u8 0) 1 1 Try.underlying22 HI.out.1 HI.out.2.1 HI.out.2.2.1 HI.out.2.2.2 rfl (by decide) _ L _ rfl (World.ownsRow.alloc HO.out _) (some ⟨wr.heap.size, 0, none⟩) 1 1 (bys [bb]) rfl (rb_lit wr [bb] 1 _ rfl rfl _) (bys_one _) (by unfold maxLen; omega) (by omega) (by have := HB2.out.size; simp; omega) ?_; intro v3 w3 hown3 hg3 hat3; have HO3 := Lib.hid hown3; have HB3 := Lib.hid ((below_alloc' HB2.out _).grown hg3 (by have := HB2.out.size; simp; omega) (by intro k hk; exact own_block_ge HO.out k hk)); clear hown3 hg3 hat3)
                go_roundg (m - (k + 1))
                case measure => omega
                case rel =>
                  refine ⟨k + 1, ⟨N, 2, so ++ [bb]⟩, L + 1, by omega, rfl, rfl, by go_num, by omega, ?_, ?_, ?_, HB3⟩
                  · show _ = _
                    rw [HNX.out, sstep4, ← HN.out, ← HBB.out]
                  · exact ⟨Or.inr (Or.inl rfl), by have := HQ.out.2.1; simp only [List.length_append, List.length_singleton] at this ⊢; omega, by have := HQ.out.2.2.1; omega, hNb⟩
                  · show World.ownsRow _ _ _ _ _ _ _
                    rw [bys_append]
                    exact HO3.out
              · have h0' : sh = 6 := h0
                subst h0'
                clear h0
                obtain ⟨bb, hbb⟩ : ∃ bb, bb = UInt8.ofNat (N / 16) := ⟨_, rfl⟩
                have hby : (N : Int) / 16 % 256 = ((bb.toNat : Nat) : Int) := by rw [hbb]; simp
                have HBB := Lib.hid hbb
                have hLk : L ≤ 100000 := by have := HQ.out.2.2.1; omega
                clear hbb
                go_wp2_with (at_builtin; refine wpList_append_any _ rfl (.tmp 82) (.tmp 87) 22 rfl w.heap.size 5 i0 (.int .u8 0) 1 1 Try.underlying22 HI.out.1 HI.out.2.1 HI.out.2.2.1 HI.out.2.2.2 rfl (by decide) _ L _ rfl (World.ownsRow.alloc HO.out _) (some ⟨wr.heap.size, 0, none⟩) 1 1 (bys [bb]) rfl (rb_lit wr [bb] 1 _ rfl rfl _) (bys_one _) (by unfold maxLen; omega) (by omega) (by have := HB2.out.size; simp; omega) ?_; intro v3 w3 hown3 hg3 hat3; have HO3 := Lib.hid hown3; have HB3 := Lib.hid ((below_alloc' HB2.out _).grown hg3 (by have := HB2.out.size; simp; omega) (by intro k hk; exact own_block_ge HO.out k hk)); clear hown3 hg3 hat3)
                go_roundg (m - (k + 1))
                case measure => omega
                case rel =>
                  refine ⟨k + 1, ⟨N, 4, so ++ [bb]⟩, L + 1, by omega, rfl, rfl, by go_num, by omega, ?_, ?_, ?_, HB3⟩
                  · show _ = _
                    rw [HNX.out, sstep6, ← HN.out, ← HBB.out]
                  · exact ⟨Or.inr (Or.inr (Or.inl rfl)), by have := HQ.out.2.1; simp only [List.length_append, List.length_singleton] at this ⊢; omega, by have := HQ.out.2.2.1; omega, hNb⟩
                  · show World.ownsRow _ _ _ _ _ _ _
                    rw [bys_append]
                    exact HO3.out
            · have hval : valOf f c0 = .tuple #[.int .u32 0, .bool false] := by rw [valOf, if_neg hv, decide_eq_false hv]; rfl
              rw [hval] at HPV
              have hbd := sfold_bad HS.out hlt (by have := HL.out; omega) (by rw [← HC0.out]; exact hv)
              have HBD := Lib.hid hbd
              clear hval hbd
              go_wp2_with fail
              refine HPV.out.mono ?_
              rintro e w3 ⟨rfl, rfl⟩
              go_wp2
              exact bodyPost_ret (v := .tuple #[.slice none 0 0, .bool false]) (by kernel_rfl) rfl (Or.inr ⟨by rw [HSO.out, sOut, HBD.out]; rfl, rfl, HB2.out⟩)
          · obtain rfl : k = m := by omega
            go_wp2
            obtain ⟨Ao, co, rfl, hco, _⟩ := own_form HO.out
            have hdy : DecYes w s.out (.returned (.tuple #[.slice Ao L co, .bool true])) wr := by
              have hL := HQ.out.2.1
              subst hL
              exact ⟨Ao, co, rfl, hco, HO.out, HB2.out⟩
            exact bodyPost_ret (v := .tuple #[.slice Ao L co, .bool true]) (by kernel_rfl) rfl (Or.inl ⟨s.out, by rw [HSO.out, sOut, HS.out]; rfl, hdy⟩)
end Go.Proofs.Ytimicibalhaljaa.B64
