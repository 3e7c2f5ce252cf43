/- The walk of the reference's PartForm; no condition but the size. -/
import Derived.Test.YtimicibalhaljaaTextSpec
import Derived.Test.YtimicibalhaljaaB64Guess
import Derived.BigQuiet
set_option linter.unusedVariables false
set_option linter.unusedSimpArgs false
namespace Go.Proofs.Ytimicibalhaljaa.B64
open Go.RowKit Go.Proofs.Ytimicibalhaljaa.K Go.Proofs.Ytimicibalhaljaa.Own
theorem isStd_step (t : List UInt8) (k : Nat) (h : k < t.length) : isStd (t.take (k + 1)) = (isStd (t.take k) || (bt t k == 43 || bt t k == 47)) := by
  unfold isStd
  rw [List.take_succ_eq_append_getElem h, List.any_append, bt_get _ _ h]
  simp
theorem isPad_last (t : List UInt8) (k : Nat) (h : t.length = k + 1) : isPad t = (bt t k == 61) := by
  rw [isPad, List.getLast?_eq_getElem?, show t.length - 1 = k by omega, List.getElem?_eq_getElem (by omega), bt_get _ _ (by omega)]
  simp
theorem form_ret (b x y : Bool) (h : b = x) (p : Bool) (h' : p = y) : Ending.returned (.tuple #[.bool b, .bool p]) = .returned (.tuple #[.bool x, .bool y]) := by rw [h, h']
set_option maxRecDepth 100000 in
set_option maxHeartbeats 4000000 in
theorem PartForm_calls (w : World) (A : Option Addr) (n c : Nat) (t : List UInt8) (h : RB w A n t) (hc : n ≤ c) (hn : n ≤ 1000000) :
    Calls Try.prog 37 #[.slice A n c] w fun e w' => e = .returned (.tuple #[.bool (!isStd t), .bool (isPad t)]) ∧ Below w.heap.size w w' := by
  have HT := Lib.hid h.len
  go_enter Try.func37, Try.ntmps37
  go_wp2
  go_loopg [2, 5, 8] n (fun g u2 u5 u8 wr => ∃ (k : Nat) (b : Bool), g + k = n ∧ u2 = .bool b ∧ u8 = .int .i64 (k : Nat) ∧ Hid (b = !isStd (t.take k)) ∧ wr = w)
  case atStart => exact ⟨0, true, by omega, rfl, rfl, rfl, rfl⟩
  case round =>
    obtain ⟨k, b, hgk, rfl, rfl, hb, hw⟩ := hrel
    subst hw
    by_cases hlt : k < n
    · obtain ⟨ad, rfl, hc⟩ := h.bt hlt
      have hst := isStd_step t k (by have := HT.out; omega)
      obtain ⟨p, hp⟩ : ∃ p, p = (bt t k).toNat := ⟨_, rfl⟩
      rw [← hp] at hc
      have HP := Lib.hid hp
      have HST := Lib.hid hst
      clear hp hst
      by_cases h43 : p = 43
      · subst h43
        have hc' : wr.cell? (ad.add k) = some (.int .u8 43) := hc
        clear hc
        go_wp2
        go_roundg (n - (k + 1))
        case measure => omega
        case rel =>
          refine ⟨k + 1, false, by omega, rfl, by go_num, ?_, rfl⟩
          have e : bt t k = 43 := UInt8.toNat_inj.1 HP.out.symm
          show false = _
          rw [HST.out, e]; simp
      by_cases h47 : p = 47
      · subst h47
        have hc' : wr.cell? (ad.add k) = some (.int .u8 47) := hc
        clear hc h43
        go_wp2
        go_roundg (n - (k + 1))
        case measure => omega
        case rel =>
          refine ⟨k + 1, false, by omega, rfl, by go_num, ?_, rfl⟩
          have e : bt t k = 47 := UInt8.toNat_inj.1 HP.out.symm
          show false = _
          rw [HST.out, e]; simp
      have b43 : ((p : Int) == 43) = false := by rw [beq_eq_false_iff_ne]; omega
      have b47 : ((p : Int) == 47) = false := by rw [beq_eq_false_iff_ne]; omega
      have H43 := Lib.hid h43
      have H47 := Lib.hid h47
      clear h43 h47
      go_wp2
      go_roundg (n - (k + 1))
      case measure => omega
      case rel =>
        refine ⟨k + 1, b, by omega, rfl, by go_num, ?_, rfl⟩
        have e1 : bt t k ≠ 43 := fun e => H43.out (by rw [HP.out, e]; rfl)
        have e2 : bt t k ≠ 47 := fun e => H47.out (by rw [HP.out, e]; rfl)
        show b = _
        rw [HST.out, hb.out]; simp [e1, e2]
    · obtain rfl : k = n := by omega
      have hfin : b = !isStd t := by
        have := hb.out
        rw [List.take_of_length_le (by have := HT.out; omega)] at this
        exact this
      have HF := Lib.hid hfin
      clear hfin hb
      by_cases h0 : k = 0
      · subst h0
        have ht : t = [] := List.eq_nil_of_length_eq_zero HT.out.symm
        have hpd : isPad t = false := by rw [ht]; rfl
        have HPD := Lib.hid hpd
        clear hpd ht
        have hd : decide ((0 : Int) < 0) = false := rfl
        go_wp2_with (go_quiet (fail))
        exact bodyPost_ret (v := .tuple #[.bool b, .bool false]) (by kernel_rfl) rfl ⟨form_ret _ _ _ HF.out _ HPD.out.symm, by first | exact Below.refl _ _ | exact Go.Proofs.Ytimicibalhaljaa.K.below_drewN (Below.refl _ _) _⟩
      · obtain ⟨m, rfl⟩ : ∃ m, k = m + 1 := ⟨k - 1, by omega⟩
        obtain ⟨ad, rfl, hc⟩ := h.bt (show m < m + 1 by omega)
        have hpd : isPad t = decide (((bt t m).toNat : Int) = 61) := by
          rw [isPad_last t m HT.out.symm]
          by_cases e : bt t m = 61
          · rw [e]; rfl
          · rw [decide_eq_false (fun h' => e (UInt8.toNat_inj.1 (by have : (bt t m).toNat = 61 := by omega
                                                                    rw [this]; rfl)))]
            simp [e]
        obtain ⟨p, hp⟩ : ∃ p, p = (bt t m).toNat := ⟨_, rfl⟩
        rw [← hp] at hc hpd
        have HPD := Lib.hid hpd
        clear hpd hp h h0
        have hm1 : ((m : Int) + 1 - 1) = (m : Int) := by omega
        have hd : decide ((0 : Int) < (m : Int) + 1) = true := decide_eq_true (by omega)
        go_wp2_with (go_quiet (fail))
        exact bodyPost_ret (v := .tuple #[.bool b, .bool (decide ((p : Int) = 61))]) (by kernel_rfl) rfl ⟨form_ret _ _ _ HF.out _ HPD.out.symm, by first | exact Below.refl _ _ | exact Go.Proofs.Ytimicibalhaljaa.K.below_drewN (Below.refl _ _) _⟩
end Go.Proofs.Ytimicibalhaljaa.B64
