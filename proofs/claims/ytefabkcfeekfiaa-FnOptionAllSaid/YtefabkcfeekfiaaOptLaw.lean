/- Walks of slices.Equal at equal lists, slices.Clone, append, optionLast, and the laws of option sets; the conditions are on sizes alone. -/
import Derived.Test.YtefabkcfeekfiaaOpt
set_option linter.unusedVariables false
set_option linter.unusedSimpArgs false
namespace Go.Proofs.Ytefabkcfeekfiaa.Opt
open Go.RowKit Go.Proofs.Ytefabkcfeekfiaa.K
set_option maxHeartbeats 1000000 in
theorem Equal64 (w : World) (A B : Option Addr) (xs : List Nat) (n c d : Nat) (hn : n ≤ 1000000) (h1 : Reads w 1 A n (xs.map fun x : Nat => Value.int .u64 (x : Int))) (h2 : Reads w 1 B n (xs.map fun x : Nat => Value.int .u64 (x : Int))) :
    Calls Try.prog 19 #[.slice A n c, .slice B n d] w fun e w' => e = .returned (.bool true) ∧ ∃ m, w' = w.drewN m := by
  go_enter Try.func19, Try.ntmps19
  go_wp2
  go_loopw [13] (fun i wr => ∃ k m : Nat, k ≤ n ∧ i = .int .i64 k ∧ wr = w.drewN m) (fun i _ => n - (intOf i).toNat)
  case atStart => exact ⟨0, 0, Nat.zero_le _, rfl, rfl⟩
  case round =>
    obtain ⟨k, m, hk, rfl, rfl⟩ := hrel
    by_cases hlt : k < n
    · obtain ⟨ad, u, rfl, hu, hc1⟩ := h1.at_ hlt
      obtain ⟨bd, v, rfl, hv, hc2⟩ := h2.at_ hlt
      rw [hu] at hv
      injection hv with hv
      subst hv
      rw [List.getElem?_map] at hu
      obtain ⟨x, hx, rfl⟩ := Option.map_eq_some_iff.1 hu
      have hk1 : k < n := hlt
      clear hx hu
      go_wp2
      repeat (go_quiet (fail); try go_wp2)
      go_roundw
      case rel => exact ⟨k + 1, _, by omega, by go_num, rfl⟩
      case measure => simp [intOf]; omega
    · go_wp2
      go_ret
      exact ⟨rfl, m, rfl⟩
set_option maxHeartbeats 1000000 in
theorem EqualB (w : World) (A B : Option Addr) (xs : List Bool) (n c d : Nat) (hn : n ≤ 1000000) (h1 : Reads w 1 A n (xs.map fun x : Bool => Value.bool x)) (h2 : Reads w 1 B n (xs.map fun x : Bool => Value.bool x)) :
    Calls Try.prog 20 #[.slice A n c, .slice B n d] w fun e w' => e = .returned (.bool true) ∧ ∃ m, w' = w.drewN m := by
  go_enter Try.func20, Try.ntmps20
  go_wp2
  go_loopw [13] (fun i wr => ∃ k m : Nat, k ≤ n ∧ i = .int .i64 k ∧ wr = w.drewN m) (fun i _ => n - (intOf i).toNat)
  case atStart => exact ⟨0, 0, Nat.zero_le _, rfl, rfl⟩
  case round =>
    obtain ⟨k, m, hk, rfl, rfl⟩ := hrel
    by_cases hlt : k < n
    · obtain ⟨ad, u, rfl, hu, hc1⟩ := h1.at_ hlt
      obtain ⟨bd, v, rfl, hv, hc2⟩ := h2.at_ hlt
      rw [hu] at hv
      injection hv with hv
      subst hv
      rw [List.getElem?_map] at hu
      obtain ⟨x, hx, rfl⟩ := Option.map_eq_some_iff.1 hu
      have hk1 : k < n := hlt
      clear hx hu
      go_wp2
      repeat (go_quiet (fail); try go_wp2)
      go_roundw
      case rel => exact ⟨k + 1, _, by omega, by go_num, rfl⟩
      case measure => simp [intOf]; omega
    · go_wp2
      go_ret
      exact ⟨rfl, m, rfl⟩
theorem ovals_map (xs : List (Int × Nat)) (n : Nat) : ovals xs n = ((List.range n).map fun i => ost xs (i + 1)).map fun x : Nat => Value.int .u64 (x : Int) := by simp [ovals]
theorem oasks_map (xs : List (Int × Nat)) (n : Nat) : oasks xs n = ((List.range n).map fun i => oask (ost xs i) (xs.getD i (0, 0))).map fun x : Bool => Value.bool x := by simp [oasks]
def aw : List (Int × Nat) := [(0, 1), (0, 4), (4, 4)]
set_option maxRecDepth 100000 in
set_option maxHeartbeats 1000000 in
theorem optionAwake_calls (w : World) : Calls Try.prog 7 #[] w fun e w' => e = .returned (.bool true) ∧ Below w.heap.size w w' := by
  have hR : RS (w.alloc (.cells #[.int .i64 0, .int .u64 1, .int .i64 0, .int .u64 4, .int .i64 4, .int .u64 4] 29)) (some ⟨w.heap.size, 0, none⟩) 3 aw := reads_lit w 2 3 _ _ rfl rfl _
  have hO := Optioned_calls _ _ aw 3 3 hR (by omega) (by decide)
  have e1 : ovals aw 3 = ([1, 5, 5] : List Nat).map fun x : Nat => Value.int .u64 (x : Int) := by rw [ovals_map]; exact congrArg (List.map _) (by decide)
  have e2 : oasks aw 3 = ([false, false, true] : List Bool).map fun x : Bool => Value.bool x := by rw [oasks_map]; exact congrArg (List.map _) (by decide)
  rw [e1, e2] at hO
  have HO := Lib.hid hO
  clear hO e1 e2 hR
  go_enter Try.func7, Try.ntmps7
  go_wp2_with fail
  refine HO.out.mono ?_
  rintro e w1 ⟨v, u, rfl, ho1, ho2, hb1⟩
  obtain ⟨A1, c1, rfl, hc1, hr1⟩ := own_form ho1
  obtain ⟨A2, c2, rfl, hc2, hr2⟩ := own_form ho2
  have hB1 := below_then (below_alloc' (Below.refl _ _) _) hb1
  clear hb1 HO ho1 ho2
  have hr1 := Lib.hid hr1
  have hr2 := Lib.hid hr2
  go_wp2_with fail
  refine (Equal64 _ _ _ [1, 5, 5] 3 c1 3 (by omega) (hr1.out.below (below_alloc' (Below.refl _ _) _) (Nat.le_refl _)) (reads_lit w1 1 3 _ #[.int .u64 1, .int .u64 5, .int .u64 5] rfl rfl 23)).mono ?_
  rintro e w2 ⟨rfl, m, rfl⟩
  go_wp2_with fail
  refine (EqualB _ _ _ [false, false, true] 3 c2 3 (by omega) ?_ ?_).mono ?_
  · exact hr2.out.below (below_alloc' (below_drewN (below_alloc' (Below.refl _ _) _) m) _) (Nat.le_refl _)
  · simpa using reads_lit ((w1.alloc (.cells #[.int .u64 1, .int .u64 5, .int .u64 5] 23)).drewN m) 1 3 [.bool false, .bool false, .bool true] #[.bool false, .bool false, .bool true] rfl rfl 4
  · rintro e w3 ⟨rfl, m2, rfl⟩
    go_wp2
    go_ret
    exact ⟨rfl, below_drewN (below_alloc' (below_drewN (below_alloc' hB1 _) _) _) _⟩
set_option maxHeartbeats 1000000 in
theorem CloneS_calls (w : World) (A : Option Addr) (xs : List (Int × Nat)) (n c : Nat) (hrs : RS w A n xs) (hn : n ≤ 1000000) :
    Calls Try.prog 9 #[.slice A n c] w fun e w' => ∃ v, e = .returned v ∧ w'.ownsRow w.heap.size 29 2 v n (stvs xs) ∧ Below w.heap.size w w' := by
  obtain ⟨i0, hi, hz0, hz1, hz2⟩ := info_parts info_step
  have hnil := fun W : World => Lib.run_eql_slice_nil (P := Try.prog) W 22 29 A n c 0 0 Try.underlying22
  rcases A with _ | ad
  · have h0 : n = 0 := by
      rcases Nat.eq_zero_or_pos n with h0 | h0
      · exact h0
      · obtain ⟨_, h1, _⟩ := hrs.2 h0
        cases h1
    subst h0
    have hx : xs = [] := List.eq_nil_of_length_eq_zero hrs.len.symm
    subst hx
    go_enter Try.func9, Try.ntmps9
    go_wp2
    go_ret
    exact ⟨_, rfl, World.ownsRow_nil _ _ _ _, Below.refl _ _⟩
  · go_enter Try.func9, Try.ntmps9
    go_wp2_with (first
      | (at_builtin; refine wpList_append_any _ rfl (.tmp 5) (.tmp 6) 22 rfl w.heap.size 29 i0 (.agg #[.int .i64 0, .int .u64 0]) 2 16 Try.underlying22 hi hz0 hz1 hz2 rfl (by decide) _ 0 [] rfl (own_empty w 29 2) (some ad) n c (stvs xs) rfl ?hr (stvs_one xs) ?h63 ?hb ?hbase ?_))
    case hr => exact hrs.below (below_alloc' (Below.refl _ _) _) (Nat.le_refl _)
    case h63 => unfold maxLen; omega
    case hb => omega
    case hbase => simp
    · intro v' w1 hown hg hat
      go_wp2
      go_ret
      exact ⟨v', rfl, by simpa using hown, ((Below.refl w.heap.size w).alloc (Nat.le_refl _) _).grown hg (by simp) (by intro k hk; simp [Value.ownBlock] at hk; omega)⟩
set_option maxHeartbeats 1000000 in
theorem optionLast_calls (w : World) (A : Option Addr) (xs : List (Int × Nat)) (n c : Nat) (hrs : RS w A n xs) (hn : n ≤ 100000) (h0 : 0 < n) (hx : ∀ x ∈ xs, x.2 < 18446744073709551616) :
    Calls Try.prog 8 #[.slice A n c] w fun e w' => e = .returned (.tuple #[.int .u64 (ost xs n : Nat), .bool true]) ∧ Below w.heap.size w w' := by
  have HO := Lib.hid (Optioned_calls w A xs n c hrs (by omega) hx)
  have hnn : ((n : Int) == 0) = false := beq_eq_false_iff_ne.2 (by omega)
  have hn0 : (n == 0) = false := beq_eq_false_iff_ne.2 (by omega)
  go_enter Try.func8, Try.ntmps8
  clear hx
  go_wp2_with fail
  refine HO.out.mono ?_
  rintro e w1 ⟨v, u, rfl, ho1, ho2, hb1⟩
  obtain ⟨A1, c1, rfl, hc1, hr1⟩ := own_form ho1
  obtain ⟨A2, c2, rfl, hc2, hr2⟩ := own_form ho2
  clear HO ho1 ho2
  obtain ⟨ad, y, rfl, hy, hcell⟩ := hr1.at_ (k := n - 1) (by omega)
  have hy2 : y = .int .u64 (ost xs n : Nat) := by
    unfold ovals at hy
    rw [List.getElem?_map, List.getElem?_range (by omega)] at hy
    have e : n - 1 + 1 = n := by omega
    simp only [Option.map_some, e] at hy
    exact (Option.some.inj hy).symm
  rw [hy2] at hcell
  have H1 := Lib.hid hy
  clear hy hy2 hr1 hr2
  go_wp2
  go_ret2
  exact ⟨rfl, hb1⟩
theorem ost_last (xs : List (Int × Nat)) (x : Int × Nat) : ost (xs ++ [x]) (xs.length + 1) = ostep (ost xs xs.length) x := by
  rw [ost_succ _ _ (by simp)]
  have e : ost (xs ++ [x]) xs.length = ost xs xs.length := by simp [ost]
  rw [e]
  simp
set_option maxRecDepth 100000 in
set_option maxHeartbeats 2000000 in
theorem FnOptionWhole_calls (w : World) (A : Option Addr) (l : List (Int × Nat)) (n c : Nat) (b : Nat) (hb64 : b < 18446744073709551616) (hrs : RS w A n l) (hn : n ≤ 140737488351232) (hx : ∀ x ∈ l, x.2 < 18446744073709551616) :
    Calls Try.prog 3 #[.slice A n c, .int .u64 b] w fun e w' => e = .returned (.bool true) ∧ Below w.heap.size w w' := by
  obtain rfl := hrs.len
  obtain ⟨i0, hi, hz0, hz1, hz2⟩ := info_parts info_step
  by_cases h1 : l.length ≤ 2147483647
  · by_cases h2 : l.length ≤ 500
    · have hstv : ∀ (k : Int) (b : Nat), stvs l ++ [.int .i64 k, .int .u64 b] = stvs (l ++ [(k, b)]) := fun k b => by simp [stvs, stv]
      have HSTV := Lib.hid hstv
      clear hstv
      have hxs : ∀ (k : Int) (b : Nat), b < 18446744073709551616 → ∀ x ∈ l ++ [(k, b)], x.2 < 18446744073709551616 := by
        intro k b hb x hm
        rcases List.mem_append.1 hm with h | h
        · exact hx x h
        · simp at h; subst h; exact hb
      have HXS := Lib.hid hxs
      clear hxs
      have hl1 := fun (k : Int) (b : Nat) => ost_last l (k, b)
      have HL1 := Lib.hid hl1
      clear hl1
      clear hx
      go_enter Try.func3, Try.ntmps3
      go_wp2_with fail
      refine (CloneS_calls w A l l.length c hrs (by omega)).mono ?_
      rintro e w1 ⟨v1, rfl, ho1, hb1⟩
      have ho1 := Lib.hid ho1
      go_wp2_with (at_builtin; refine wpList_append_any _ rfl (.tmp 18) (.tmp 21) 22 rfl w.heap.size 29 i0 (.agg #[.int .i64 0, .int .u64 0]) 2 16 Try.underlying22 hi hz0 hz1 hz2 rfl (by decide) v1 l.length (stvs l) rfl (own_below ho1.out (below_alloc' (Below.refl _ _) _)) (some ⟨w1.heap.size, 0, none⟩) 1 1 [.int .i64 3, .int .u64 (b : Nat)] rfl (reads_lit w1 2 1 _ #[.int .i64 3, .int .u64 (b : Nat)] rfl rfl 29) (fun u hu => by simp at hu; rcases hu with rfl | rfl <;> rfl) (by unfold maxLen; omega) (by omega) (size_alloc_le hb1 _) ?_)
      intro v2 w2 ho2 hg2 hat2
      have hB2 := (below_alloc' hb1 _).grown hg2 (size_alloc_le hb1 _) (fun q hq => own_block_ge ho1.out q hq)
      rw [HSTV.out] at ho2
      obtain ⟨A2, c2, rfl, hc2, hr2⟩ := own_form ho2
      have hr2 := Lib.hid hr2
      clear hg2 hat2 ho2 ho1 hb1
      have hB2' := Lib.hid hB2
      clear hB2
      go_wp2_with fail
      refine (optionLast_calls w2 A2 (l ++ [(3, b)]) (l.length + 1) c2 hr2.out (by omega) (by omega) (HXS.out 3 b hb64)).mono ?_
      rw [HL1.out]
      rintro e w3 ⟨rfl, hb3⟩
      have hB3 := below_then hB2'.out hb3
      clear hb3 hr2
      go_wp2_with fail
      refine (CloneS_calls w3 A l l.length c (hrs.below hB3 (Nat.le_refl _)) (by omega)).mono ?_
      rintro e w4 ⟨v4, rfl, ho4, hb4⟩
      have hB4 := below_then hB3 hb4
      have ho4 := Lib.hid (own_base ho4 hB3.size)
      go_wp2_with (at_builtin; refine wpList_append_any _ rfl (.tmp 28) (.tmp 30) 22 rfl w.heap.size 29 i0 (.agg #[.int .i64 0, .int .u64 0]) 2 16 Try.underlying22 hi hz0 hz1 hz2 rfl (by decide) v4 l.length (stvs l) rfl (own_below ho4.out (below_alloc' (Below.refl _ _) _)) (some ⟨w4.heap.size, 0, none⟩) 1 1 [.int .i64 2, .int .u64 0] rfl (reads_lit w4 2 1 _ #[.int .i64 2, .int .u64 0] rfl rfl 29) (fun u hu => by simp at hu; rcases hu with rfl | rfl <;> rfl) (by unfold maxLen; omega) (by omega) (size_alloc_le hB4 _) ?_)
      intro v5 w5 ho5 hg5 hat5
      have hB5 := (below_alloc' hB4 _).grown hg5 (size_alloc_le hB4 _) (fun q hq => own_block_ge ho4.out q hq)
      have hq := HSTV.out 2 0
      simp only [Int.natCast_zero] at hq
      rw [hq] at ho5
      obtain ⟨A5, c5, rfl, hc5, hr5⟩ := own_form ho5
      have hr5 := Lib.hid hr5
      clear hg5 hat5 ho5 ho4 hb4 hq
      go_wp2_with fail
      refine (optionLast_calls w5 A5 (l ++ [(2, 0)]) (l.length + 1) c5 hr5.out (by omega) (by omega) (HXS.out 2 0 (by decide))).mono ?_
      rw [HL1.out]
      rintro e w6 ⟨rfl, hb6⟩
      have hB6 := below_then hB5 hb6
      clear hb6 hr5
      have e1 : (ostep (ost l l.length) (3, b)) = b := by simp [ostep]
      have e2 : (ostep (ost l l.length) (2, 0)) = 0 := by simp [ostep]
      go_wp2_with fail
      refine (optionAwake_calls _).mono ?_
      rintro e w7 ⟨rfl, hb7⟩
      go_wp2
      go_ret
      exact ⟨rfl, below_then hB6 hb7⟩
    · go_enter Try.func3, Try.ntmps3
      go_wp2_with (go_at_call 7; refine (optionAwake_calls _).mono ?_; rintro e w1 ⟨rfl, hb1⟩)
      go_ret
      exact ⟨rfl, hb1⟩
  · go_enter Try.func3, Try.ntmps3
    go_wp2
    go_ret
    exact ⟨rfl, Below.refl _ _⟩
end Go.Proofs.Ytefabkcfeekfiaa.Opt
