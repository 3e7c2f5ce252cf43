/- Walks of extractPadding and its callers, and of the reference; the conditions are on sizes alone. -/
import Derived.Test.YtefabkcfeekfiaaPad
import Derived.Test.YtefabkcfeekfiaaUnpFns
set_option linter.unusedVariables false
set_option linter.unusedSimpArgs false
namespace Go.Proofs.Ytefabkcfeekfiaa.Unp
open Go.RowKit Go.Proofs.Ytefabkcfeekfiaa.K Go.Proofs.Ytefabkcfeekfiaa.Own
/-- What 'good' is behind k rounds. -/
def gds (l : List UInt8) (n : Nat) (p : UInt8) : Nat → UInt8
  | 0 => mB n p.toNat
  | k + 1 => gds l n p k &&& ~~~((mB p.toNat (k + 1) &&& p) ^^^ (mB p.toNat (k + 1) &&& bt l (n - (k + 1))))
set_option maxRecDepth 100000 in
set_option maxHeartbeats 2000000 in
theorem extract_calls (w : World) (A : Option Addr) (l : List UInt8) (n c : Nat) (hrb : RB w A n l) (hn : n ≤ 100000) (h0 : 0 < n) :
    Calls Try.prog 31 #[.slice A n c] w fun e w' => e = .returned (.tuple #[.int .i64 ((bt l (n - 1) &&& fin (gds l n (bt l (n - 1)) (min 256 n))).toNat : Int), .int .u8 ((fin (gds l n (bt l (n - 1)) (min 256 n))).toNat : Int)]) ∧ w = w' := by
  obtain ⟨ad, rfl, hc⟩ := hrb.bt (k := n - 1) (by omega)
  obtain ⟨p, hp⟩ : ∃ p, p = bt l (n - 1) := ⟨_, rfl⟩
  rw [← hp] at hc ⊢
  clear hp
  have hp2 : p.toNat < 256 := p.toNat_lt
  have hm0 := mask_eq n p.toNat hn (by omega)
  obtain ⟨m, hm, hmn, hm256⟩ : ∃ m : Nat, min 256 n = m ∧ m ≤ n ∧ m ≤ 256 := ⟨_, rfl, Nat.min_le_right _ _, Nat.min_le_left _ _⟩
  rcases (show n < 256 ∧ m = n ∨ 256 ≤ n ∧ m = 256 from by omega) with ⟨hlt, rfl⟩ | ⟨hge, rfl⟩
  · rw [hm]
    clear hm
    go_enter Try.func31, Try.ntmps31
    go_wp2
    go_loop [3, 7] (fun g i => ∃ j k : Nat, Hid (j = k + 1) ∧ k ≤ m ∧ j ≤ m + 1 ∧ 1 ≤ j ∧ i = .int .i64 j ∧ g = .int .u8 ((gds l m p k).toNat : Int)) (fun _ i => m + 1 - (intOf i).toNat)
    case atStart => exact ⟨1, 0, rfl, Nat.zero_le _, by omega, by omega, rfl, rfl⟩
    case round =>
      clear hm0
      obtain ⟨j, k, hj, hk, hj1, hj2, rfl, rfl⟩ := hrel
      obtain ⟨g, hg⟩ : ∃ g, g = gds l m p k := ⟨_, rfl⟩
      rw [← hg]
      have HG := Lib.hid hg
      clear hg
      by_cases hk2 : j ≤ m
      · obtain ⟨_, hx, hcj⟩ := hrb.bt (k := m - j) (by omega)
        injection hx with hx
        subst hx
        have hmj := mask_eq p.toNat j (by omega) (by omega)
        by_cases hpj : j ≤ p.toNat
        · have hmj' := mask_eq' p.toNat j (by omega) (by omega)
          go_wp2
          go_round
          case rel =>
            refine ⟨j + 1, k + 1, (by have := hj.out; show _ = _; omega), by have := hj.out; omega, by omega, by omega, by go_num, ?_⟩
            simp only [and8, xor8, andNot8]
            rw [gds, ← HG.out, ← hj.out]
          case measure => simp [intOf]; omega
        · go_wp2
          go_round
          case rel =>
            refine ⟨j + 1, k + 1, (by have := hj.out; show _ = _; omega), by have := hj.out; omega, by omega, by omega, by go_num, ?_⟩
            simp only [and8, xor8, andNot8]
            rw [gds, ← HG.out, ← hj.out]
          case measure => simp [intOf]; omega
      · go_wp2
        go_ret2
        obtain rfl : k = m := by have := hj.out; omega
        exact ⟨ret_ints (by rw [← HG.out]; exact end_eq p g) (by rw [← HG.out]; exact raw_eq g), rfl⟩
  · rw [hm]
    clear hm
    have hm0' := mask_eq' n p.toNat hn (by omega)
    go_enter Try.func31, Try.ntmps31
    go_wp2
    go_loop [3, 7] (fun g i => ∃ j k : Nat, Hid (j = k + 1) ∧ k ≤ 256 ∧ j ≤ 256 + 1 ∧ 1 ≤ j ∧ i = .int .i64 j ∧ g = .int .u8 ((gds l n p k).toNat : Int)) (fun _ i => 256 + 1 - (intOf i).toNat)
    case atStart => exact ⟨1, 0, rfl, Nat.zero_le _, by omega, by omega, rfl, rfl⟩
    case round =>
      clear hm0
      obtain ⟨j, k, hj, hk, hj1, hj2, rfl, rfl⟩ := hrel
      obtain ⟨g, hg⟩ : ∃ g, g = gds l n p k := ⟨_, rfl⟩
      rw [← hg]
      have HG := Lib.hid hg
      clear hg
      by_cases hk2 : j ≤ 256
      · obtain ⟨_, hx, hcj⟩ := hrb.bt (k := n - j) (by omega)
        injection hx with hx
        subst hx
        have hmj := mask_eq p.toNat j (by omega) (by omega)
        by_cases hpj : j ≤ p.toNat
        · have hmj' := mask_eq' p.toNat j (by omega) (by omega)
          go_wp2
          go_round
          case rel =>
            refine ⟨j + 1, k + 1, (by have := hj.out; show _ = _; omega), by have := hj.out; omega, by omega, by omega, by go_num, ?_⟩
            simp only [and8, xor8, andNot8]
            rw [gds, ← HG.out, ← hj.out]
          case measure => simp [intOf]; omega
        · go_wp2
          go_round
          case rel =>
            refine ⟨j + 1, k + 1, (by have := hj.out; show _ = _; omega), by have := hj.out; omega, by omega, by omega, by go_num, ?_⟩
            simp only [and8, xor8, andNot8]
            rw [gds, ← HG.out, ← hj.out]
          case measure => simp [intOf]; omega
      · go_wp2
        go_ret2
        obtain rfl : k = 256 := by have := hj.out; omega
        exact ⟨ret_ints (by rw [← HG.out]; exact end_eq p g) (by rw [← HG.out]; exact raw_eq g), rfl⟩
/-- The reference's answer. -/
def upOK (l : List UInt8) (n : Nat) : Bool := decide ((bt l (n - 1)).toNat ≤ n) && (l.drop (n - (bt l (n - 1)).toNat)).all (· == bt l (n - 1))
def upN (l : List UInt8) (n : Nat) : Int := if upOK l n then ((bt l (n - 1)).toNat : Int) else 0
/-- The byte that tells it. -/
def upB (l : List UInt8) (n : Nat) : Int := if upOK l n then 255 else 0
theorem up_no {l : List UInt8} {n : Nat} (h : upOK l n = false) : (0 : Int) = upN l n ∧ false = upOK l n := by simp [upN, h]
theorem up_yes {l : List UInt8} {n : Nat} (h : upOK l n = true) : ((bt l (n - 1)).toNat : Int) = upN l n ∧ true = upOK l n := by simp [upN, h]
set_option maxHeartbeats 1000000 in
theorem WrapUnpadded_calls (w : World) (A : Option Addr) (l : List UInt8) (n c : Nat) (hrb : RB w A n l) (hn : n ≤ 100000) (h0 : 0 < n) (hcap : n ≤ c) :
    Calls Try.prog 18 #[.slice A n c] w fun e w' => e = .returned (.tuple #[.int .i64 (upN l n), .bool (upOK l n)]) ∧ w = w' := by
  obtain ⟨i0, hi, _, hz1, _⟩ := info_parts info_u8
  have hl := hrb.len
  have HL := Lib.hid hl
  clear hl
  obtain ⟨p, hp⟩ : ∃ p, p = bt l (n - 1) := ⟨_, rfl⟩
  have hp2 : p.toNat < 256 := p.toNat_lt
  by_cases hpn : p.toNat ≤ n
  · obtain ⟨A', hcut, hr⟩ := cut_l (P := Try.prog) Try.underlying37 hi hz1 .i64 hrb hcap ((n : Int) - (p.toNat : Int)) (n - p.toNat) (by omega) (by omega)
    obtain ⟨ad, rfl, hc⟩ := hrb.bt (k := n - 1) (by omega)
    rw [← hp] at hc
    have HP := Lib.hid hp
    have hq : n - (n - p.toNat) = p.toNat := by omega
    rw [hq] at hcut
    rw [hq] at hr
    have hr' : RB w A' p.toNat (l.drop (n - p.toNat)) := by
      unfold RB
      have e : bys (l.drop (n - p.toNat)) = (bys l).drop ((n - p.toNat) * 1) := by simp [bys, List.map_drop]
      rw [e]; exact hr
    clear hp hr hq
    go_enter Try.func18, Try.ntmps18
    go_wp2
    go_loop [25] (fun i => ∃ k : Nat, k ≤ p.toNat ∧ i = .int .i64 k ∧ Hid (((l.drop (n - p.toNat)).take k).all (· == p) = true)) (fun i => p.toNat - (intOf i).toNat)
    case atStart => exact ⟨0, Nat.zero_le _, rfl, by simp [Hid]⟩
    case round =>
      obtain ⟨k, hk, rfl, hall⟩ := hrel
      have hlen := hr'.len
      have HLn := Lib.hid hlen
      clear hlen
      by_cases hlt : k < p.toNat
      · obtain ⟨ad2, rfl, hc2⟩ := hr'.bt hlt
        obtain ⟨x, hx⟩ : ∃ x, x = bt (l.drop (n - p.toNat)) k := ⟨_, rfl⟩
        rw [← hx] at hc2
        have HX := Lib.hid hx
        clear hx
        have hx2 : x.toNat < 256 := x.toNat_lt
        by_cases hxp : x = p
        · subst hxp
          go_wp2
          go_round
          case rel =>
            refine ⟨k + 1, by omega, by go_num, ?_⟩
            show (List.take (k + 1) _).all _ = true
            have hkl : k < (l.drop (n - x.toNat)).length := by have := HLn.out; omega
            rw [List.take_succ_eq_append_getElem hkl, List.all_append, hall.out, ← bt_get _ _ hkl, ← HX.out]
            simp
          case measure => simp [intOf]; omega
        · have hne : ((x.toNat : Int) != (p.toNat : Int)) = true := by
            rw [bne_iff_ne]
            intro h
            exact hxp (UInt8.toNat_inj.1 (by omega))
          go_wp2
          go_ret2
          have hno : upOK l n = false := by
            unfold upOK
            rw [← HP.out]
            have hkl : k < (l.drop (n - p.toNat)).length := by have := HLn.out; omega
            have : (l.drop (n - p.toNat)).all (· == p) = false := List.all_eq_false.2 ⟨_, List.getElem_mem hkl, by rw [← bt_get _ _ hkl, ← HX.out]; simpa using hxp⟩
            rw [this, Bool.and_false]
          exact ⟨ret_int_bool (up_no hno).1 (up_no hno).2, rfl⟩
      · go_wp2
        go_ret2
        have hfin := hall.out
        rw [List.take_of_length_le (by have := HLn.out; omega)] at hfin
        have hyes : upOK l n = true := by unfold upOK; rw [← HP.out, hfin]; simpa using hpn
        have h2 := up_yes hyes
        rw [← HP.out] at h2
        exact ⟨ret_int_bool h2.1 h2.2, rfl⟩
  · obtain ⟨ad, rfl, hc⟩ := hrb.bt (k := n - 1) (by omega)
    rw [← hp] at hc
    have HP := Lib.hid hp
    clear hp
    go_enter Try.func18, Try.ntmps18
    go_wp2
    go_ret2
    have hno : upOK l n = false := by unfold upOK; rw [← HP.out]; simp [hpn]
    exact ⟨ret_int_bool (up_no hno).1 (up_no hno).2, rfl⟩
/-- What Unpadded answers is what the reference answers. -/
theorem gds_all (l : List UInt8) (n : Nat) (p : UInt8) (k : Nat) : gds l n p k = 255 ↔ p.toNat ≤ n ∧ ∀ j, 1 ≤ j → j ≤ k → j ≤ p.toNat → bt l (n - j) = p := by
  induction k with
  | zero =>
    unfold gds mB
    constructor
    · intro h
      split at h
      · exact ⟨by assumption, fun j h1 h2 => by omega⟩
      · exact absurd h (by decide)
    · rintro ⟨h, _⟩
      rw [if_pos h]
  | succ k ih =>
    rw [gds, and_not_full, ih]
    constructor
    · rintro ⟨⟨h1, h2⟩, h3⟩
      refine ⟨h1, fun j a b c => ?_⟩
      rcases Nat.lt_or_ge j (k + 1) with hj | hj
      · exact h2 j a (by omega) c
      · obtain rfl : j = k + 1 := by omega
        unfold mB at h3
        rw [if_pos c, xor_zero, UInt8.and_comm 255 p, UInt8.and_comm 255, and_full, and_full] at h3
        exact h3.symm
    · rintro ⟨h1, h2⟩
      refine ⟨⟨h1, fun j a b c => h2 j a (by omega) c⟩, ?_⟩
      rw [xor_zero]
      unfold mB
      split
      · rw [h2 (k + 1) (by omega) (by omega) (by assumption)]
      · simp
theorem all_last (l : List UInt8) (p : UInt8) (m : Nat) (hm : m ≤ l.length) : (l.drop (l.length - m)).all (· == p) = true ↔ ∀ j, 1 ≤ j → j ≤ m → bt l (l.length - j) = p := by
  rw [List.all_eq_true]
  constructor
  · intro h j h1 h2
    have hk : l.length - j < l.length := by omega
    have := h (bt l (l.length - j)) (by
      rw [bt_get _ _ hk]
      rw [List.mem_drop_iff_getElem]
      exact ⟨m - j, by omega, by congr 1; omega⟩)
    simpa using this
  · intro h x hx
    rw [List.mem_drop_iff_getElem] at hx
    obtain ⟨i, hi, rfl⟩ := hx
    have := h (m - i) (by omega) (by omega)
    rw [bt_get _ _ (by omega)] at this
    have e : l.length - (m - i) = l.length - m + i := by omega
    simp only [e] at this
    simp [this]
theorem up_gds (l : List UInt8) (n : Nat) (hn : n = l.length) (h0 : 0 < n) : upOK l n = decide (gds l n (bt l (n - 1)) (min 256 n) = 255) := by
  subst hn
  rw [Bool.eq_iff_iff, decide_eq_true_iff, gds_all]
  unfold upOK
  obtain ⟨p, hp⟩ : ∃ p, p = bt l (l.length - 1) := ⟨_, rfl⟩
  rw [← hp, Bool.and_eq_true, decide_eq_true_iff]
  have hp2 : p.toNat < 256 := p.toNat_lt
  constructor
  · rintro ⟨h1, h2⟩
    exact ⟨h1, fun j a _ c => (all_last l p _ h1).1 h2 j a c⟩
  · rintro ⟨h1, h2⟩
    exact ⟨h1, (all_last l p _ h1).2 fun j a c => h2 j a (by omega) c⟩
theorem extract_up (l : List UInt8) (n : Nat) (hn : n = l.length) (h0 : 0 < n) :
    ((bt l (n - 1) &&& fin (gds l n (bt l (n - 1)) (min 256 n))).toNat : Int) = upN l n ∧ ((fin (gds l n (bt l (n - 1)) (min 256 n))).toNat : Int) = upB l n := by
  have h := up_gds l n hn h0
  unfold upN upB fin
  by_cases hg : gds l n (bt l (n - 1)) (min 256 n) = 255
  · rw [h, hg]
    simp [and_full]
  · rw [h, if_neg hg]
    simp [hg]
theorem Extract_calls (w : World) (A : Option Addr) (l : List UInt8) (n c : Nat) (hrb : RB w A n l) (hn : n ≤ 100000) (h0 : 0 < n) :
    Calls Try.prog 29 #[.slice A n c] w fun e w' => e = .returned (.tuple #[.int .i64 (upN l n), .int .u8 (upB l n)]) ∧ w = w' := by
  have hx := extract_up l n hrb.len h0
  have hc := extract_calls w A l n c hrb hn h0
  rw [hx.1, hx.2] at hc
  have HC := Lib.hid hc
  clear hc hx
  go_enter Try.func29, Try.ntmps29
  go_wp2_with (go_at_call 31; refine HC.out.mono ?_; rintro e w1 ⟨rfl, rfl⟩)
  go_ret2
  exact ⟨rfl, rfl⟩
theorem Unpadded_calls (w : World) (A : Option Addr) (l : List UInt8) (n c : Nat) (hrb : RB w A n l) (hn : n ≤ 100000) (h0 : 0 < n) :
    Calls Try.prog 16 #[.slice A n c] w fun e w' => e = .returned (.tuple #[.int .i64 (upN l n), .bool (upOK l n)]) ∧ Below w.heap.size w w' := by
  obtain rfl := hrb.len
  have hc := Lib.hid (Clone_calls w A l l.length c hrb (by omega))
  have hb0 : (upB l l.length == 255) = upOK l l.length := by
    unfold upB
    cases upOK l l.length <;> rfl
  obtain ⟨B, hB⟩ : ∃ B, B = upB l l.length := ⟨_, rfl⟩
  rw [← hB] at hb0
  have HB := Lib.hid hB
  clear hB
  go_enter Try.func16, Try.ntmps16
  go_wp2_with (first
    | (go_at_call 28; refine hc.out.mono ?_; rintro e w1 ⟨v, rfl, ⟨A1, c1, rfl, hle, ho⟩, hb⟩; have ho := Lib.hid ho)
    | (go_at_call 29; refine (Extract_calls w1 A1 l l.length c1 (Reads.of_own ho.out) hn h0).mono ?_; rintro e w2 ⟨rfl, rfl⟩; rw [← HB.out]))
  go_ret2
  exact ⟨rfl, hb⟩
end Go.Proofs.Ytefabkcfeekfiaa.Unp
