/- The walks of padAwake, FnWrapUnpad and FnWrapPadded: each answers true; no condition beyond the reading's own size. -/
import Derived.Test.YtefabkcfeekfiaaUnp
set_option linter.unusedVariables false
set_option linter.unusedSimpArgs false
namespace Go.Proofs.Ytefabkcfeekfiaa.Unp
open Go.RowKit Go.Proofs.Ytefabkcfeekfiaa.K Go.Proofs.Ytefabkcfeekfiaa.Own Go.Proofs.Ytefabkcfeekfiaa.Pad
set_option maxRecDepth 100000 in
set_option maxHeartbeats 1000000 in
theorem padAwake_calls (w : World) : Calls Try.prog 13 #[] w fun e w' => e = .returned (.bool true) ∧ Below w.heap.size w w' := by
  have hA := rb_lit w [7, 2, 2] 3 #[.int .u8 7, .int .u8 2, .int .u8 2] rfl rfl 5
  have hU := Unpadded_calls _ _ _ 3 3 hA (by omega) (by omega)
  have e1 : upN [7, 2, 2] 3 = 2 := by decide
  have e2 : upOK [7, 2, 2] 3 = true := by decide
  rw [e1, e2] at hU
  have HU := Lib.hid hU
  clear e1 e2 hU hA
  go_enter Try.func13, Try.ntmps13
  go_wp2_with (first
    | (go_at_call 16; refine HU.out.mono ?_; rintro e w1 ⟨rfl, hb1⟩)
    | (go_at_call 14; refine (Padded_calls _ _ [7] 1 1 3 (rb_lit w1 [7] 1 #[.int .u8 7] rfl rfl 5) (by omega) (by omega) (by omega)).mono ?_; rintro e w2 ⟨v, rfl, ⟨A1, c1, rfl, hle, ho⟩, hb2⟩; have ho := Lib.hid ho)
    | (go_at_call 17; refine (PartSame_calls _ _ _ [7, 2, 2] [7, 2, 2] 3 c1 3 3 ((Reads.of_own ho.out : RB w2 A1 3 [7, 2, 2]).below (below_alloc' (Below.refl _ _) _) (Nat.le_refl _)) (rb_lit w2 [7, 2, 2] 3 #[.int .u8 7, .int .u8 2, .int .u8 2] rfl rfl 5)).mono ?_; rintro e w3 ⟨rfl, rfl⟩))
  go_ret
  refine ⟨rfl, below_alloc' (below_then (below_alloc' (below_then (below_alloc' (Below.refl _ _) _) hb1) _) hb2) _⟩
set_option maxRecDepth 100000 in
set_option maxHeartbeats 1000000 in
theorem FnWrapUnpad_calls (w : World) (A : Option Addr) (l : List UInt8) (n c : Nat) (hrb : RB w A n l) (hn : n ≤ 140737488351232) (hcap : n ≤ c) :
    Calls Try.prog 6 #[.slice A n c] w fun e w' => e = .returned (.bool true) ∧ Below w.heap.size w w' := by
  obtain rfl := hrb.len
  by_cases h1 : l.length ≤ 2147483647
  · by_cases h2 : l.length ≤ 2000
    · by_cases h3 : l.length = 0
      · obtain rfl : l = [] := List.eq_nil_of_length_eq_zero h3
        clear h1 h2 h3
        simp only [List.length_nil]
        go_enter Try.func6, Try.ntmps6
        go_wp2_with (first
          | (go_at_call 12; refine (partShort_lit w [(A, 0, c)] 1 #[.slice A 0 c] rfl rfl 37 (by omega) true (by simp <;> omega)).mono ?_; rintro e w1 ⟨rfl, rfl⟩)
          | (go_at_call 13; refine (padAwake_calls _).mono ?_; rintro e w2 ⟨rfl, hb2⟩))
        go_ret
        exact ⟨rfl, below_then (below_alloc' (Below.refl _ _) _) hb2⟩
      · have hpos : 0 < l.length := by omega
        have h3' : ((l.length : Int) == 0) = false := beq_eq_false_iff_ne.2 (by omega)
        have hne : (l.length == 0) = false := beq_eq_false_iff_ne.2 h3
        go_enter Try.func6, Try.ntmps6
        go_wp2_with (first
          | (go_at_call 12; refine (partShort_lit w [(A, l.length, c)] 1 #[.slice A l.length c] rfl rfl 37 (by omega) true (by simp <;> omega)).mono ?_; rintro e w1 ⟨rfl, rfl⟩)
          | (go_at_call 15; refine (partOwn_calls _ A l l.length c (hrb.below (below_alloc' (Below.refl _ _) _) (Nat.le_refl _)) (by omega)).mono ?_; rintro e w2 ⟨v, rfl, ⟨A2, c2, rfl, hle2, ho2⟩, hb2⟩; have ho2 := Lib.hid ho2)
          | (go_at_call 16; refine (Unpadded_calls w2 A2 l l.length c2 (Reads.of_own ho2.out) (by omega) (by omega)).mono ?_; rintro e w3 ⟨rfl, hb3⟩)
          | (go_at_call 18; refine (WrapUnpadded_calls w3 A l l.length c (hrb.below (below_then (below_then (below_alloc' (Below.refl _ _) _) hb2) hb3) (Nat.le_refl _)) (by omega) (by omega) hcap).mono ?_; rintro e w4 ⟨rfl, rfl⟩)
          | (go_at_call 13; refine (padAwake_calls _).mono ?_; rintro e w5 ⟨rfl, hb5⟩))
        go_ret
        exact ⟨rfl, below_then (below_then (below_then (below_alloc' (Below.refl _ _) _) hb2) hb3) hb5⟩
    · go_enter Try.func6, Try.ntmps6
      go_wp2_with (first
        | (go_at_call 12; refine (partShort_lit w [(A, l.length, c)] 1 #[.slice A l.length c] rfl rfl 37 (by omega) false (by simp <;> omega)).mono ?_; rintro e w1 ⟨rfl, rfl⟩)
        | (go_at_call 13; refine (padAwake_calls _).mono ?_; rintro e w2 ⟨rfl, hb2⟩))
      go_ret
      exact ⟨rfl, below_then (below_alloc' (Below.refl _ _) _) hb2⟩
  · go_enter Try.func6, Try.ntmps6
    go_wp2
    go_ret
    exact ⟨rfl, Below.refl _ _⟩
theorem padL_facts (l : List UInt8) (b : Nat) (h1 : 1 ≤ b) (h2 : b ≤ 255) : ∃ r : Nat, 1 ≤ r ∧ r ≤ 255 ∧ (padL l b).length = l.length + r ∧ upN (padL l b) (padL l b).length = r ∧ upOK (padL l b) (padL l b).length = true ∧ (padL l b).take l.length = l := by
  have hm : l.length % b < b := Nat.mod_lt _ h1
  obtain ⟨r, hr⟩ : ∃ r, r = b - l.length % b := ⟨_, rfl⟩
  have hp : padL l b = l ++ List.replicate r (UInt8.ofNat r) := by unfold padL; rw [hr]
  have hr1 : 1 ≤ r := by omega
  have hr2 : r ≤ 255 := by omega
  clear hr
  rw [hp]
  have hlen : (l ++ List.replicate r (UInt8.ofNat r)).length = l.length + r := by simp
  have hlast : bt (l ++ List.replicate r (UInt8.ofNat r)) (l.length + r - 1) = UInt8.ofNat r := by
    rw [bt_get _ _ (by rw [hlen]; omega), List.getElem_append_right (by omega)]
    simp
  have hrn : (UInt8.ofNat r).toNat = r := by simp; omega
  have hok : upOK (l ++ List.replicate r (UInt8.ofNat r)) (l.length + r) = true := by
    unfold upOK
    rw [hlast, hrn, Nat.add_sub_cancel, List.drop_left]
    simp
  refine ⟨r, hr1, hr2, hlen, ?_, ?_, ?_⟩
  · rw [hlen]; unfold upN; rw [hok, if_pos rfl, hlast, hrn]
  · rw [hlen]; exact hok
  · exact List.take_left
theorem rb_take {w : World} {A : Option Addr} {n : Nat} {l : List UInt8} (h : Reads w 1 A n ((bys l).take (n * 1))) : RB w A n (l.take n) := by
  unfold RB
  rw [Nat.mul_one] at h
  have e : bys (l.take n) = (bys l).take n := by simp [bys, List.map_take]
  rw [e]; exact h
set_option maxRecDepth 100000 in
set_option maxHeartbeats 2000000 in
theorem FnWrapPadded_calls (w : World) (A : Option Addr) (l : List UInt8) (n c : Nat) (x y : Nat) (hx2 : x ≤ 255) (hy2 : y ≤ 255) (hrb : RB w A n l) (hn : n ≤ 140737488351232) (hcap : n ≤ c) :
    Calls Try.prog 5 #[.slice A n c, .int .u8 x, .int .u8 y] w fun e w' => e = .returned (.bool true) ∧ Below w.heap.size w w' := by
  obtain rfl := hrb.len
  obtain ⟨i0, hi, _, hz1, _⟩ := info_parts info_u8
  by_cases h1 : l.length ≤ 2147483647
  · by_cases h2 : l.length ≤ 2000
    · rcases (show x = 0 ∨ 1 ≤ x ∧ y = 0 ∨ 1 ≤ x ∧ 1 ≤ y from by omega) with rfl | ⟨hx1, rfl⟩ | ⟨hx1, hy1⟩
      · go_enter Try.func5, Try.ntmps5
        go_wp2_with (first
          | (go_at_call 12; refine (partShort_lit w [(A, l.length, c)] 1 #[.slice A l.length c] rfl rfl 37 (by omega) true (by simp <;> omega)).mono ?_; rintro e w1 ⟨rfl, rfl⟩)
          | (go_at_call 13; refine (padAwake_calls _).mono ?_; rintro e w2 ⟨rfl, hb2⟩))
        go_ret
        exact ⟨rfl, below_then (below_alloc' (Below.refl _ _) _) hb2⟩
      · have hx0 : ((x : Int) == 0) = false := beq_eq_false_iff_ne.2 (by omega)
        go_enter Try.func5, Try.ntmps5
        go_wp2_with (first
          | (go_at_call 12; refine (partShort_lit w [(A, l.length, c)] 1 #[.slice A l.length c] rfl rfl 37 (by omega) true (by simp <;> omega)).mono ?_; rintro e w1 ⟨rfl, rfl⟩)
          | (go_at_call 13; refine (padAwake_calls _).mono ?_; rintro e w2 ⟨rfl, hb2⟩))
        go_ret
        exact ⟨rfl, below_then (below_alloc' (Below.refl _ _) _) hb2⟩
      · have hx0 : ((x : Int) == 0) = false := beq_eq_false_iff_ne.2 (by omega)
        have hy0 : ((y : Int) == 0) = false := beq_eq_false_iff_ne.2 (by omega)
        obtain ⟨r1, q1, q2, q3, q4, q5, q6⟩ := padL_facts l x hx1 hx2
        obtain ⟨P1, hP1⟩ : ∃ P1, P1 = padL l x := ⟨_, rfl⟩
        rw [← hP1] at q3 q4 q5 q6
        obtain ⟨r2, p1, p2, p3, p4, p5, p6⟩ := padL_facts P1 y hy1 hy2
        obtain ⟨P2, hP2⟩ : ∃ P2, P2 = padL P1 y := ⟨_, rfl⟩
        rw [← hP2] at p3 p4 p5 p6
        have b1 : P1.length ≤ 3000 := by omega
        have b2 : P2.length ≤ 4000 := by omega
        have b3 : r1 ≤ P1.length := by omega
        have b4 : r2 ≤ P2.length := by omega
        have b5 : 0 < P1.length := by omega
        have b6 : 0 < P2.length := by omega
        have e1 : P1.length - r1 = l.length := by omega
        have e2 : P2.length - r2 = P1.length := by omega
        have HP1 := Lib.hid hP1
        have HP2 := Lib.hid hP2
        have Q3 := Lib.hid q3
        have Q4 := Lib.hid q4
        have Q5 := Lib.hid q5
        have Q6 := Lib.hid q6
        have P3 := Lib.hid p3
        have P4 := Lib.hid p4
        have P5 := Lib.hid p5
        have P6 := Lib.hid p6
        have E1 := Lib.hid e1
        have E2 := Lib.hid e2
        clear hP1 hP2 q3 q4 q5 q6 p3 p4 p5 p6 e1 e2
        go_enter Try.func5, Try.ntmps5
        go_wp2_with (first
          | (go_at_call 12; refine (partShort_lit w [(A, l.length, c)] 1 #[.slice A l.length c] rfl rfl 37 (by omega) true (by simp <;> omega)).mono ?_; rintro e w1 ⟨rfl, rfl⟩)
          | fail)
        refine (partOwn_calls _ A l l.length c (hrb.below (below_alloc' (Below.refl _ _) _) (Nat.le_refl _)) (by omega)).mono ?_
        rintro e w2 ⟨v, rfl, ⟨A2, c2, rfl, hle2, ho2⟩, hb2⟩
        have ho2 := Lib.hid ho2
        have hB2 := below_then (below_alloc' (Below.refl _ _) _) hb2
        go_wp2_with fail
        refine (Padded_calls w2 A2 l l.length c2 x (Reads.of_own ho2.out) (by omega) hx1 hx2).mono ?_
        rintro e w3 ⟨v, rfl, ho3, hb3⟩
        rw [← HP1.out] at ho3
        obtain ⟨A3, c3, rfl, hle3, ho3⟩ := ho3
        have ho3 := Lib.hid ho3
        have hB3 := below_then hB2 hb3
        go_wp2_with fail
        refine (partOwn_calls w3 A3 P1 P1.length c3 (Reads.of_own ho3.out) (by omega)).mono ?_
        rintro e w4 ⟨v, rfl, ⟨A4, c4, rfl, hle4, ho4⟩, hb4⟩
        have ho4 := Lib.hid ho4
        have hB4 := below_then hB3 hb4
        go_wp2_with fail
        refine (Padded_calls w4 A4 P1 P1.length c4 y (Reads.of_own ho4.out) (by omega) hy1 hy2).mono ?_
        rintro e w5 ⟨v, rfl, ho5, hb5⟩
        rw [← HP2.out] at ho5
        obtain ⟨A5, c5, rfl, hle5, ho5⟩ := ho5
        have ho5 := Lib.hid ho5
        have hB5 := below_then hB4 hb5
        go_wp2_with fail
        refine (partOwn_calls w5 A5 P2 P2.length c5 (Reads.of_own ho5.out) (by omega)).mono ?_
        rintro e w6 ⟨v, rfl, ⟨A6, c6, rfl, hle6, ho6⟩, hb6⟩
        have ho6 := Lib.hid ho6
        have hB6 := below_then hB5 hb6
        have hU := Unpadded_calls w6 A6 P2 P2.length c6 (Reads.of_own ho6.out) (by omega) b6
        rw [P4.out, P5.out] at hU
        have hU := Lib.hid hU
        go_wp2_with fail
        refine hU.out.mono ?_
        rintro e w7 ⟨rfl, hb7⟩
        have hB7 := below_then hB6 hb7
        obtain ⟨A8, hcut, hr8⟩ := cut_h (P := Try.prog) Try.underlying37 hi hz1 .i64 (Reads.of_own ho5.out) hle5 ((P2.length : Int) - (r2 : Int)) P1.length (by have := E2.out; omega) (by have := E2.out; omega)
        have hr8 := rb_take hr8
        rw [P6.out] at hr8
        have hr8 := Lib.hid hr8
        clear hU
        go_wp2_with fail
        refine (PartSame_calls w7 A8 A3 P1 P1 P1.length c5 P1.length c3 (hr8.out.below (below_then hb6 hb7) (Nat.le_refl _)) ((Reads.of_own ho3.out : RB _ _ _ _).below (below_then (below_then (below_then hb4 hb5) hb6) hb7) (Nat.le_refl _))).mono ?_
        rintro e w8 ⟨rfl, rfl⟩
        clear hcut
        go_wp2_with fail
        refine (partOwn_calls w7 A3 P1 P1.length c3 ((Reads.of_own ho3.out : RB _ _ _ _).below (below_then (below_then (below_then hb4 hb5) hb6) hb7) (Nat.le_refl _)) (by omega)).mono ?_
        rintro e w9 ⟨v, rfl, ⟨A9, c9, rfl, hle9, ho9⟩, hb9⟩
        have ho9 := Lib.hid ho9
        have hB9 := below_then hB7 hb9
        have hU := Unpadded_calls w9 A9 P1 P1.length c9 (Reads.of_own ho9.out) (by omega) b5
        rw [Q4.out, Q5.out] at hU
        have hU := Lib.hid hU
        go_wp2_with fail
        refine hU.out.mono ?_
        rintro e w10 ⟨rfl, hb10⟩
        have hB10 := below_then hB9 hb10
        obtain ⟨A11, hcut, hr11⟩ := cut_h (P := Try.prog) Try.underlying37 hi hz1 .i64 (Reads.of_own ho3.out) hle3 ((P1.length : Int) - (r1 : Int)) l.length (by have := E1.out; omega) (by have := E1.out; omega)
        have hr11 := rb_take hr11
        rw [Q6.out] at hr11
        have hr11 := Lib.hid hr11
        clear hU
        go_wp2_with fail
        refine (PartSame_calls w10 A11 A l l l.length c3 l.length c (hr11.out.below (below_then (below_then (below_then (below_then (below_then hb4 hb5) hb6) hb7) hb9) hb10) (Nat.le_refl _)) (hrb.below hB10 (Nat.le_refl _))).mono ?_
        rintro e w11 ⟨rfl, rfl⟩
        clear hcut
        go_wp2_with fail
        refine (padAwake_calls _).mono ?_
        rintro e w12 ⟨rfl, hb12⟩
        go_wp2
        go_ret
        exact ⟨rfl, below_then hB10 hb12⟩
    · go_enter Try.func5, Try.ntmps5
      go_wp2_with (first
        | (go_at_call 12; refine (partShort_lit w [(A, l.length, c)] 1 #[.slice A l.length c] rfl rfl 37 (by omega) false (by simp <;> omega)).mono ?_; rintro e w1 ⟨rfl, rfl⟩)
        | (go_at_call 13; refine (padAwake_calls _).mono ?_; rintro e w2 ⟨rfl, hb2⟩))
      go_ret
      exact ⟨rfl, below_then (below_alloc' (Below.refl _ _) _) hb2⟩
  · go_enter Try.func5, Try.ntmps5
    go_wp2
    go_ret
    exact ⟨rfl, Below.refl _ _⟩
end Go.Proofs.Ytefabkcfeekfiaa.Unp
