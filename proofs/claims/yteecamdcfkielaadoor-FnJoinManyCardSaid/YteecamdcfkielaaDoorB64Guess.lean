/- Walks of Guess and what it calls, DecodedLen, errors.New; the conditions are on sizes alone. -/
import Derived.Test.YteecamdcfkielaaDoorB64Dec
import Derived.Test.YteecamdcfkielaaDoorB64Impl
set_option linter.unusedVariables false
set_option linter.unusedSimpArgs false
namespace Go.Proofs.YteecamdcfkielaaDoor.B64
open Go.RowKit Go.Proofs.YteecamdcfkielaaDoor.K Go.Proofs.YteecamdcfkielaaDoor.Own
set_option maxHeartbeats 400000 in
theorem Equal_calls (w : World) (A B : Option Addr) (l m : List UInt8) (n c k d : Nat) (h : RB w A n l) (h' : RB w B k m) :
    Calls Tryd.prog 79 #[.slice A n c, .slice B k d] w fun e w' => e = .returned (.bool (l == m)) ∧ w = w' := by
  have h1 := conv_string (P := Tryd.prog) (c := c) Tryd.underlying23 Tryd.underlying5 Tryd.underlying9 h
  have h2 := conv_string (P := Tryd.prog) (c := d) Tryd.underlying23 Tryd.underlying5 Tryd.underlying9 h'
  go_enter Tryd.func79, Tryd.ntmps79
  go_wp2
  go_ret
  exact ⟨by simp, rfl⟩
theorem isPad_drop (l : List UInt8) (n : Nat) (h : l.length = n + 1) : (l.drop n == [61]) = isPad l := by
  have e : l.drop n = [l[n]'(by omega)] := by rw [List.drop_eq_getElem_cons (by omega), List.drop_eq_nil_of_le (by omega)]
  rw [e, isPad, List.getLast?_eq_getElem?, show l.length - 1 = n by omega, List.getElem?_eq_getElem (by omega)]
  simp
set_option maxHeartbeats 1000000 in
theorem HasSuffix_calls (w : World) (A B : Option Addr) (l : List UInt8) (n c : Nat) (h : RB w A n l) (hc : n ≤ c) (hn : n ≤ 1000000) (h' : RB w B 1 [61]) :
    Calls Tryd.prog 77 #[.slice A n c, .slice B 1 1] w fun e w' => e = .returned (.bool (isPad l)) ∧ w = w' := by
  by_cases h0 : n = 0
  · subst h0
    have hl : l = [] := List.eq_nil_of_length_eq_zero h.len.symm
    subst hl
    go_enter Tryd.func77, Tryd.ntmps77
    go_wp2
    go_ret
    exact ⟨rfl, rfl⟩
  · obtain ⟨k, rfl⟩ : ∃ k, n = k + 1 := ⟨n - 1, by omega⟩
    obtain ⟨i0, hi, hz0, hz1, hz2⟩ := info_parts info_u8
    obtain ⟨A2, hcS, hrS⟩ := cut_l (P := Tryd.prog) Tryd.underlying23 hi hz1 .i64 h hc (k : Int) k rfl (by omega)
    have hr2 : RB w A2 (k + 1 - k) (l.drop k) := by
      show Reads _ _ _ _ _
      rw [Nat.mul_one] at hrS
      rw [bys_drop]; exact hrS
    rw [show k + 1 - k = 1 by omega] at hr2
    have HE := Lib.hid (Equal_calls w A2 B (l.drop k) [61] 1 (c - k) 1 1 hr2 h')
    have HP := Lib.hid (isPad_drop l k h.len.symm)
    have hk1 : ((k : Int) + 1 - 1) = (k : Int) := by omega
    clear h h' hrS hr2 hi hz0 hz1 hz2
    go_enter Tryd.func77, Tryd.ntmps77
    go_wp2_with fail
    refine HE.out.mono ?_
    rintro e w1 ⟨rfl, rfl⟩
    go_wp2
    go_ret
    exact ⟨ret_bool HP.out, rfl⟩
set_option maxHeartbeats 1000000 in
theorem zzStd_calls (w : World) (A : Option Addr) (l : List UInt8) (n c : Nat) (h : RB w A n l) (hn : n ≤ 1000000) :
    Calls Tryd.prog 78 #[.slice A n c] w fun e w' => e = .returned (.bool (isStd l)) ∧ w = w' := by
  have HL := Lib.hid h.len
  go_enter Tryd.func78, Tryd.ntmps78
  go_wp2
  go_loop [7] (fun i => ∃ k : Nat, k ≤ n ∧ i = .int .i64 k ∧ Hid ((l.take k).any (fun c => c == 43 || c == 47) = false)) (fun i => n - (intOf i).toNat)
  case atStart => exact ⟨0, Nat.zero_le _, rfl, by simp [Hid]⟩
  case round =>
    obtain ⟨k, hk, rfl, hall⟩ := hrel
    by_cases hlt : k < n
    · obtain ⟨ad, rfl, hc⟩ := h.bt hlt
      have hkl : k < l.length := by have := HL.out; omega
      have hmem : bt l k ∈ l := by rw [bt_get _ _ hkl]; exact List.getElem_mem hkl
      obtain ⟨p, hp⟩ : ∃ p, p = (bt l k).toNat := ⟨_, rfl⟩
      rw [← hp] at hc
      have HP := Lib.hid hp
      have HM := Lib.hid hmem
      have HKL := Lib.hid hkl
      clear hp hmem hkl
      by_cases h43 : p = 43
      · subst h43
        have hc' : w.cell? (ad.add k) = some (.int .u8 43) := hc
        clear hc
        go_wp2
        go_ret
        exact ⟨ret_bool (by rw [isStd, eq_comm, List.any_eq_true]; exact ⟨_, HM.out, by rw [show bt l k = 43 from UInt8.toNat_inj.1 HP.out.symm]; rfl⟩), rfl⟩
      by_cases h47 : p = 47
      · subst h47
        have hc' : w.cell? (ad.add k) = some (.int .u8 47) := hc
        clear hc h43
        go_wp2
        go_ret
        exact ⟨ret_bool (by rw [isStd, eq_comm, List.any_eq_true]; exact ⟨_, HM.out, by rw [show bt l k = 47 from UInt8.toNat_inj.1 HP.out.symm]; rfl⟩), rfl⟩
      have b43 : ((p : Int) == 43) = false := by rw [beq_eq_false_iff_ne]; omega
      have b47 : ((p : Int) == 47) = false := by rw [beq_eq_false_iff_ne]; omega
      have H43 := Lib.hid h43
      have H47 := Lib.hid h47
      clear h43 h47
      go_wp2
      go_round
      case rel =>
        refine ⟨k + 1, by omega, by go_num, ?_⟩
        show (List.take (k + 1) l).any _ = false
        rw [List.take_succ_eq_append_getElem HKL.out, List.any_append, hall.out, Bool.false_or, ← bt_get _ _ HKL.out]
        have e1 : bt l k ≠ 43 := fun e => H43.out (by rw [HP.out, e]; rfl)
        have e2 : bt l k ≠ 47 := fun e => H47.out (by rw [HP.out, e]; rfl)
        simp [e1, e2]
      case measure => simp [intOf]; omega
    · go_wp2
      go_ret
      have hfin := hall.out
      rw [List.take_of_length_le (by have := HL.out; omega)] at hfin
      exact ⟨ret_bool hfin.symm, rfl⟩
def guessN (l : List UInt8) : Int := if isPad l then (if isStd l then 1 else 2) else (if isStd l then 3 else 4)
set_option maxHeartbeats 1000000 in
theorem Guess_calls (w : World) (A : Option Addr) (l : List UInt8) (n c : Nat) (h : RB w A n l) (hc : n ≤ c) (hn : n ≤ 1000000) :
    Calls Tryd.prog 72 #[.slice A n c] w fun e w' => e = .returned (.int .i64 (guessN l)) ∧ Below w.heap.size w w' := by
  have hB := below_alloc' (Below.refl w.heap.size w) (.cells #[.int .u8 61] 5)
  have hlit : RB (w.alloc (.cells #[.int .u8 61] 5)) (some ⟨w.heap.size, 0, none⟩) 1 [61] := rb_lit w [61] 1 _ rfl rfl _
  have hS := HasSuffix_calls _ A _ l n c (h.below hB (Nat.le_refl _)) hc hn hlit
  have hZ := zzStd_calls (w.alloc (.cells #[.int .u8 61] 5)) A l n c (h.below hB (Nat.le_refl _)) hn
  have HS := Lib.hid hS
  have HZ := Lib.hid hZ
  have HB := Lib.hid hB
  unfold guessN
  clear hS hZ hlit h hB
  cases hp : isPad l with
  | true =>
    cases hs : isStd l with
    | true =>
      rw [hp] at HS
      rw [hs] at HZ
      clear hp hs
      go_enter Tryd.func72, Tryd.ntmps72
      go_wp2_with fail
      refine HS.out.mono ?_
      rintro e w1 ⟨rfl, rfl⟩
      go_wp2_with fail
      refine HZ.out.mono ?_
      rintro e w1 ⟨rfl, rfl⟩
      go_wp2
      go_ret
      exact ⟨rfl, HB.out⟩
    | false =>
      rw [hp] at HS
      rw [hs] at HZ
      clear hp hs
      go_enter Tryd.func72, Tryd.ntmps72
      go_wp2_with fail
      refine HS.out.mono ?_
      rintro e w1 ⟨rfl, rfl⟩
      go_wp2_with fail
      refine HZ.out.mono ?_
      rintro e w1 ⟨rfl, rfl⟩
      go_wp2
      go_ret
      exact ⟨rfl, HB.out⟩
  | false =>
    cases hs : isStd l with
    | true =>
      rw [hp] at HS
      rw [hs] at HZ
      clear hp hs
      go_enter Tryd.func72, Tryd.ntmps72
      go_wp2_with fail
      refine HS.out.mono ?_
      rintro e w1 ⟨rfl, rfl⟩
      go_wp2_with fail
      refine HZ.out.mono ?_
      rintro e w1 ⟨rfl, rfl⟩
      go_wp2
      go_ret
      exact ⟨rfl, HB.out⟩
    | false =>
      rw [hp] at HS
      rw [hs] at HZ
      clear hp hs
      go_enter Tryd.func72, Tryd.ntmps72
      go_wp2_with fail
      refine HS.out.mono ?_
      rintro e w1 ⟨rfl, rfl⟩
      go_wp2_with fail
      refine HZ.out.mono ?_
      rintro e w1 ⟨rfl, rfl⟩
      go_wp2
      go_ret
      exact ⟨rfl, HB.out⟩
set_option maxHeartbeats 1000000 in
theorem DecodedLen_calls (pad : Bool) (w : World) (g m : Nat) (al dm : List UInt8) (ha : al.length = 64) (hd : dm.length = 256) (hb : Blk w g 78 (encC al dm (pcOf pad)).toArray) (hm : m ≤ 1000000) :
    Calls Tryd.prog 61 #[.pointer (some ⟨g, 0, none⟩), .int .i64 m] w fun e w' => e = .returned (.int .i64 (dLen pad m : Nat)) ∧ w = w' := by
  have hc : w.cell? ⟨g, 320, none⟩ = some (.int .i32 (pcOf pad)) := by rw [hb.cell, encC_pad_at _ _ _ ha hd]
  cases pad with
  | false =>
    have hc' : w.cell? ⟨g, 320, none⟩ = some (.int .i32 (-1)) := hc
    have HD := Lib.hid (decodedLen_raw w m hm)
    clear hc hb
    go_enter Tryd.func61, Tryd.ntmps61
    go_wp2_with fail
    refine HD.out.mono ?_
    rintro e w1 ⟨rfl, rfl⟩
    go_wp2
    go_ret
    exact ⟨rfl, rfl⟩
  | true =>
    have hc' : w.cell? ⟨g, 320, none⟩ = some (.int .i32 61) := hc
    have HD := Lib.hid (decodedLen_pad w m hm)
    clear hc hb
    go_enter Tryd.func61, Tryd.ntmps61
    go_wp2_with fail
    refine HD.out.mono ?_
    rintro e w1 ⟨rfl, rfl⟩
    go_wp2
    go_ret
    exact ⟨rfl, rfl⟩
def SomeErr (w : World) (e : Ending) (w' : World) : Prop := (∃ T v, e = .returned (.iface T v)) ∧ Below w.heap.size w w'
theorem errorsNew_calls (w : World) (s : ByteArray) : Calls Tryd.prog 20 #[.string s] w (SomeErr w) := by
  go_enter Tryd.func20, Tryd.ntmps20
  go_wp2
  go_ret
  exact ⟨⟨_, _, rfl⟩, below_alloc' (Below.refl _ _) _⟩
end Go.Proofs.YteecamdcfkielaaDoor.B64
