/- Walks of the option set's methods and of impl.Optioned; the conditions are on sizes alone. -/
import Derived.Test.YtefabkcfeekfiaaOptFns
import Derived.Test.YtefabkcfeekfiaaProg
set_option linter.unusedVariables false
set_option linter.unusedSimpArgs false
namespace Go.Proofs.Ytefabkcfeekfiaa.Opt
open Go.RowKit Go.Proofs.Ytefabkcfeekfiaa.K
theorem info_u64 : (Try.prog.info? 23).map (fun i => (i.zero, i.size, i.bytes)) = some (some (.int .u64 0), 1, 8) := by kernel_rfl
theorem info_bool : (Try.prog.info? 4).map (fun i => (i.zero, i.size, i.bytes)) = some (some (.bool false), 1, 1) := by kernel_rfl
theorem info_step : (Try.prog.info? 29).map (fun i => (i.zero, i.size, i.bytes)) = some (some (.agg #[.int .i64 0, .int .u64 0]), 2, 16) := by kernel_rfl
set_option maxHeartbeats 400000 in
theorem Enable_calls (w : World) (g : Nat) (s b : Nat) (hs : s < 18446744073709551616) (hb : b < 18446744073709551616) (hc : w.cell? ⟨g, 0, none⟩ = some (.int .u64 s)) (hf : w.frozen? ⟨g, 0, none⟩ = false) :
    Calls Try.prog 21 #[.pointer (some ⟨g, 0, none⟩), .int .u64 b] w fun e w' => e = .returned (.tuple #[]) ∧ w.setCell ⟨g, 0, none⟩ (.int .u64 (s ||| b : Nat)) = w' := by
  go_enter Try.func21, Try.ntmps21
  go_wp2
  go_end0
  exact ⟨rfl, by rw [u64_or_nat _ _ hs hb]⟩
set_option maxHeartbeats 400000 in
theorem Disable_calls (w : World) (g : Nat) (s b : Nat) (hs : s < 18446744073709551616) (hb : b < 18446744073709551616) (hc : w.cell? ⟨g, 0, none⟩ = some (.int .u64 s)) (hf : w.frozen? ⟨g, 0, none⟩ = false) :
    Calls Try.prog 22 #[.pointer (some ⟨g, 0, none⟩), .int .u64 b] w fun e w' => e = .returned (.tuple #[]) ∧ w.setCell ⟨g, 0, none⟩ (.int .u64 (s &&& (18446744073709551615 - b) : Nat)) = w' := by
  go_enter Try.func22, Try.ntmps22
  go_wp2
  go_end0
  exact ⟨rfl, by rw [not64 b (by omega) (by omega), show (18446744073709551615 : Int) - (b : Int) = ((18446744073709551615 - b : Nat) : Int) from by omega, u64_and_nat _ _ hs (by omega)]⟩
set_option maxHeartbeats 400000 in
theorem Clear_calls (w : World) (g : Nat) (s b : Nat) (hs : s < 18446744073709551616) (hb : b < 18446744073709551616) (hc : w.cell? ⟨g, 0, none⟩ = some (.int .u64 s)) (hf : w.frozen? ⟨g, 0, none⟩ = false) :
    Calls Try.prog 23 #[.pointer (some ⟨g, 0, none⟩)] w fun e w' => e = .returned (.tuple #[]) ∧ w.setCell ⟨g, 0, none⟩ (.int .u64 (0 : Nat)) = w' := by
  go_enter Try.func23, Try.ntmps23
  go_wp2
  go_end0
  exact ⟨rfl, rfl⟩
set_option maxHeartbeats 400000 in
theorem Set_calls (w : World) (g : Nat) (s b : Nat) (hs : s < 18446744073709551616) (hb : b < 18446744073709551616) (hc : w.cell? ⟨g, 0, none⟩ = some (.int .u64 s)) (hf : w.frozen? ⟨g, 0, none⟩ = false) :
    Calls Try.prog 24 #[.pointer (some ⟨g, 0, none⟩), .int .u64 b] w fun e w' => e = .returned (.tuple #[]) ∧ w.setCell ⟨g, 0, none⟩ (.int .u64 (b : Nat)) = w' := by
  go_enter Try.func24, Try.ntmps24
  go_wp2
  go_end0
  exact ⟨rfl, rfl⟩
set_option maxHeartbeats 400000 in
theorem Value_calls (w : World) (s : Nat) : Calls Try.prog 26 #[.int .u64 s] w fun e w' => e = .returned (.int .u64 s) ∧ w = w' := by
  go_enter Try.func26, Try.ntmps26
  go_wp2
  go_ret
  exact ⟨rfl, rfl⟩
set_option maxHeartbeats 400000 in
theorem IsEnabled_calls (w : World) (s b : Nat) (hs : s < 18446744073709551616) (hb : b < 18446744073709551616) : Calls Try.prog 25 #[.int .u64 s, .int .u64 b] w fun e w' => e = .returned (.bool (s &&& b == b)) ∧ w = w' := by
  go_enter Try.func25, Try.ntmps25
  go_wp2
  go_ret
  exact ⟨ret_bool (by rw [u64_and_nat _ _ hs hb]; rw [Bool.eq_iff_iff]; simp; omega), rfl⟩
/-- What a slice of steps reads as. -/
def RS (w : World) (A : Option Addr) (n : Nat) (xs : List (Int × Nat)) : Prop := Reads w 2 A n (stvs xs)
theorem RS.len {w : World} {A : Option Addr} {n : Nat} {xs : List (Int × Nat)} (h : RS w A n xs) : n = xs.length := by have := h.1; rw [stvs_length] at this; omega
theorem RS.below {w w' : World} {A : Option Addr} {n B : Nat} {xs : List (Int × Nat)} (h : RS w A n xs) (hb : Below B w w') (hB : w.heap.size ≤ B) : RS w' A n xs := Reads.below h hb hB
theorem RS.at_ {w : World} {A : Option Addr} {n : Nat} {xs : List (Int × Nat)} (h : RS w A n xs) {k : Nat} (hk : k < xs.length) : ∃ ad, A = some ad ∧ w.cell? (ad.add (k * 2)) = some (.int .i64 (xs[k]'hk).1) ∧ w.cell? ⟨(ad.add (k * 2)).block, (ad.add (k * 2)).off + 1, none⟩ = some (.int .u64 (xs[k]'hk).2) := by
  obtain ⟨ad, e, _, hc⟩ := h.2 (by rw [h.len]; omega)
  exact ⟨ad, e, hc _ _ (stvs_at xs k hk).1, cell_next (hc _ _ (stvs_at xs k hk).2)⟩
set_option maxRecDepth 100000 in
set_option maxHeartbeats 2000000 in
theorem Optioned_calls (w : World) (A : Option Addr) (xs : List (Int × Nat)) (n c : Nat) (hrs : RS w A n xs) (hn : n ≤ 1000000) (hx : ∀ x ∈ xs, x.2 < 18446744073709551616) :
    Calls Try.prog 10 #[.slice A n c] w fun e w' => ∃ v u, e = .returned (.tuple #[v, u]) ∧ w'.ownsRow w.heap.size 23 1 v n (ovals xs n) ∧ w'.ownsRow w.heap.size 4 1 u n (oasks xs n) ∧ Below w.heap.size w w' := by
  obtain rfl := hrs.len
  obtain ⟨i1, hi1, ha1, hb1, hc1⟩ := info_parts info_u64
  obtain ⟨i2, hi2, ha2, hb2, hc2⟩ := info_parts info_bool
  go_enter Try.func10, Try.ntmps10
  go_wp2
  go_loopw [5, 6, 12] (fun v u i wr => ∃ k : Nat, k ≤ xs.length ∧ i = .int .i64 k ∧ Hid (wr.ownsRow w.heap.size 23 1 v k (ovals xs k)) ∧ Hid (wr.ownsRow w.heap.size 4 1 u k (oasks xs k)) ∧ Hid (Blk wr w.heap.size 48 #[.int .u64 (ost xs k)]) ∧ Below w.heap.size w wr) (fun _ _ i _ => xs.length - (intOf i).toNat)
  case atStart => exact ⟨0, Nat.zero_le _, rfl, World.ownsRow_nil _ _ _ _, World.ownsRow_nil _ _ _ _, Blk.new _ _ _, below_alloc' (Below.refl _ _) _⟩
  case round =>
    obtain ⟨k, hk, rfl, ho1, ho2, hb, hB⟩ := hrel
    by_cases hlt : k < xs.length
    · obtain ⟨ad, rfl, hc1', hc2'⟩ := (hrs.below hB (Nat.le_refl _)).at_ hlt
      obtain ⟨x, hx0⟩ : ∃ x, x = xs[k] := ⟨_, rfl⟩
      obtain ⟨kd, bt⟩ := x
      rw [← hx0] at hc1' hc2'
      have hbt := hx _ (List.getElem_mem hlt)
      rw [← hx0] at hbt
      have HX := Lib.hid hx0
      clear hx0
      simp only at hc1' hc2' hbt
      have hst := ost_lt xs hx k
      obtain ⟨s, hs0⟩ : ∃ s, s = ost xs k := ⟨_, rfl⟩
      rw [← hs0] at hb hst
      have HS := Lib.hid hs0
      clear hs0
      have hcg := (hb.out.cell 0)
      have hfg := hb.out.frozen 0
      have hga := hb.out.lt
      have hal : Below wr.heap.size wr (wr.alloc (.cells #[.int .i64 kd, .int .u64 bt] 29)) := below_alloc' (Below.refl _ _) _
      have hbA := Lib.hid (hb.out.alloc (.cells #[.int .i64 kd, .int .u64 bt] 29))
      have ho1A := Lib.hid (own_below ho1.out hal)
      have ho2A := Lib.hid (own_below ho2.out hal)
      have hBA := below_then hB hal
      have hcgA := hbA.out.cell 0
      have hfgA := hbA.out.frozen 0
      clear hal
      rcases (show kd = 0 ∨ kd = 1 ∨ kd = 2 ∨ kd = 3 ∨ kd = 4 ∨ (kd ≠ 0 ∧ kd ≠ 1 ∧ kd ≠ 2 ∧ kd ≠ 3 ∧ kd ≠ 4) from by omega) with rfl | rfl | rfl | rfl | rfl | ⟨k0, k1, k2, k3, k4⟩
      · go_wp2_with (go_at_call 21; refine (Enable_calls _ _ s bt hst hbt hcgA hfgA).mono ?_; rintro e w2 ⟨rfl, hw2⟩; have hb2' := Lib.hid (hw2 ▸ hbA.out.set_ 0 (.int .u64 (s ||| bt : Nat))); have ho1B := Lib.hid (hw2 ▸ own_setCell ho1A.out hbA.out (by decide) 0 (.int .u64 (s ||| bt : Nat))); have ho2B := Lib.hid (hw2 ▸ own_setCell ho2A.out hbA.out (by decide) 0 (.int .u64 (s ||| bt : Nat))); have hBB := hw2 ▸ hBA.setCell (p := ⟨w.heap.size, 0, none⟩) (Nat.le_refl _) (.int .u64 (s ||| bt : Nat)); have hcB := hb2'.out.cell 0; simp at hcB; clear hw2)
        go_wp2_with (first
          | (go_at_call 26; refine (Value_calls _ _).mono ?_; rintro e w3 ⟨rfl, rfl⟩)
          
          | (at_builtin; refine wpList_append_any _ rfl (.tmp 42) (.tmp 45) 31 rfl w.heap.size 23 i1 (.int .u64 0) 1 8 Try.underlying31 hi1 ha1 hb1 hc1 rfl (by decide) u5 k (ovals xs k) rfl (own_below ho1B.out (below_alloc' (Below.refl _ _) _)) (some ⟨w2.heap.size, 0, none⟩) 1 1 [.int .u64 (s ||| bt : Nat)] rfl (by simpa using reads_lit w2 1 1 [.int .u64 (s ||| bt : Nat)] #[.int .u64 (s ||| bt : Nat)] rfl rfl 23) (fun u hu => by simp at hu; subst hu; rfl) (by unfold maxLen; omega) (by omega) (size_alloc_le hBB _) ?_; intro v1 w4 ho3 hg3 hat3; have hB4 := (below_alloc' hBB _).grown hg3 (size_alloc_le hBB _) (fun q hq => own_block_ge ho1B.out q hq); have ho4 := Lib.hid ((own_below ho2B.out (below_alloc' (Below.refl _ _) (.cells #[.int .u64 (s ||| bt : Nat)] 23))).kept hg3 (own_type_ne ho2B.out ho1B.out (by decide))); have hb4 := Lib.hid ((hb2'.out.alloc (.cells #[.int .u64 (s ||| bt : Nat)] 23)).grown hg3 (own_blk_ne ho1B.out hb2'.out (by decide))); have ho3 := Lib.hid ho3; clear hat3; have hg3 := Lib.hid hg3)
          | (at_builtin; refine wpList_append_any _ rfl (.tmp 47) (.tmp 49) 32 rfl w.heap.size 4 i2 (.bool false) 1 1 Try.underlying32 hi2 ha2 hb2 hc2 rfl (by decide) u6 k (oasks xs k) rfl (own_below ho4.out (below_alloc' (Below.refl _ _) _)) (some ⟨w4.heap.size, 0, none⟩) 1 1 [.bool false] rfl (reads_lit w4 1 1 _ #[.bool false] rfl rfl 4) (fun u hu => by simp at hu; subst hu; rfl) (by unfold maxLen; omega) (by omega) (size_alloc_le hB4 _) ?_; intro v2 w5 ho5 hg5 hat5; have hB5 := (below_alloc' hB4 _).grown hg5 (size_alloc_le hB4 _) (fun q hq => own_block_ge ho4.out q hq); have ho6 := Lib.hid ((own_below ho3.out (below_alloc' (Below.refl _ _) (.cells #[.bool false] 4))).kept hg5 (own_type_ne ho3.out ho4.out (by decide))); have hb5 := Lib.hid ((hb4.out.alloc (.cells #[.bool false] 4)).grown hg5 (own_blk_ne ho4.out hb4.out (by decide))); have ho5 := Lib.hid ho5; clear hat5; have hg5 := Lib.hid hg5))
        go_roundw
        case rel =>
          have hs := ost_succ xs k hlt
          have ha := oasks_succ xs k hlt
          rw [← HX.out, ← HS.out] at hs ha
          have e1 : ostep s (0, bt) = s ||| bt := by simp_all [ostep]
          have e2 : oask s (0, bt) = false := by simp_all [oask]
          refine ⟨k + 1, by omega, by go_num, ?_, ?_, ?_, hB5⟩
          · rw [ovals_succ, hs, e1]; exact ho6
          · rw [ha, e2]; exact ho5
          · rw [hs, e1]; exact hb5
        case measure => simp [intOf]; omega
      · go_wp2_with (go_at_call 22; refine (Disable_calls _ _ s bt hst hbt hcgA hfgA).mono ?_; rintro e w2 ⟨rfl, hw2⟩; have hb2' := Lib.hid (hw2 ▸ hbA.out.set_ 0 (.int .u64 (s &&& (18446744073709551615 - bt) : Nat))); have ho1B := Lib.hid (hw2 ▸ own_setCell ho1A.out hbA.out (by decide) 0 (.int .u64 (s &&& (18446744073709551615 - bt) : Nat))); have ho2B := Lib.hid (hw2 ▸ own_setCell ho2A.out hbA.out (by decide) 0 (.int .u64 (s &&& (18446744073709551615 - bt) : Nat))); have hBB := hw2 ▸ hBA.setCell (p := ⟨w.heap.size, 0, none⟩) (Nat.le_refl _) (.int .u64 (s &&& (18446744073709551615 - bt) : Nat)); have hcB := hb2'.out.cell 0; simp at hcB; clear hw2)
        go_wp2_with (first
          | (go_at_call 26; refine (Value_calls _ _).mono ?_; rintro e w3 ⟨rfl, rfl⟩)
          
          | (at_builtin; refine wpList_append_any _ rfl (.tmp 42) (.tmp 45) 31 rfl w.heap.size 23 i1 (.int .u64 0) 1 8 Try.underlying31 hi1 ha1 hb1 hc1 rfl (by decide) u5 k (ovals xs k) rfl (own_below ho1B.out (below_alloc' (Below.refl _ _) _)) (some ⟨w2.heap.size, 0, none⟩) 1 1 [.int .u64 (s &&& (18446744073709551615 - bt) : Nat)] rfl (by simpa using reads_lit w2 1 1 [.int .u64 (s &&& (18446744073709551615 - bt) : Nat)] #[.int .u64 (s &&& (18446744073709551615 - bt) : Nat)] rfl rfl 23) (fun u hu => by simp at hu; subst hu; rfl) (by unfold maxLen; omega) (by omega) (size_alloc_le hBB _) ?_; intro v1 w4 ho3 hg3 hat3; have hB4 := (below_alloc' hBB _).grown hg3 (size_alloc_le hBB _) (fun q hq => own_block_ge ho1B.out q hq); have ho4 := Lib.hid ((own_below ho2B.out (below_alloc' (Below.refl _ _) (.cells #[.int .u64 (s &&& (18446744073709551615 - bt) : Nat)] 23))).kept hg3 (own_type_ne ho2B.out ho1B.out (by decide))); have hb4 := Lib.hid ((hb2'.out.alloc (.cells #[.int .u64 (s &&& (18446744073709551615 - bt) : Nat)] 23)).grown hg3 (own_blk_ne ho1B.out hb2'.out (by decide))); have ho3 := Lib.hid ho3; clear hat3; have hg3 := Lib.hid hg3)
          | (at_builtin; refine wpList_append_any _ rfl (.tmp 47) (.tmp 49) 32 rfl w.heap.size 4 i2 (.bool false) 1 1 Try.underlying32 hi2 ha2 hb2 hc2 rfl (by decide) u6 k (oasks xs k) rfl (own_below ho4.out (below_alloc' (Below.refl _ _) _)) (some ⟨w4.heap.size, 0, none⟩) 1 1 [.bool false] rfl (reads_lit w4 1 1 _ #[.bool false] rfl rfl 4) (fun u hu => by simp at hu; subst hu; rfl) (by unfold maxLen; omega) (by omega) (size_alloc_le hB4 _) ?_; intro v2 w5 ho5 hg5 hat5; have hB5 := (below_alloc' hB4 _).grown hg5 (size_alloc_le hB4 _) (fun q hq => own_block_ge ho4.out q hq); have ho6 := Lib.hid ((own_below ho3.out (below_alloc' (Below.refl _ _) (.cells #[.bool false] 4))).kept hg5 (own_type_ne ho3.out ho4.out (by decide))); have hb5 := Lib.hid ((hb4.out.alloc (.cells #[.bool false] 4)).grown hg5 (own_blk_ne ho4.out hb4.out (by decide))); have ho5 := Lib.hid ho5; clear hat5; have hg5 := Lib.hid hg5))
        go_roundw
        case rel =>
          have hs := ost_succ xs k hlt
          have ha := oasks_succ xs k hlt
          rw [← HX.out, ← HS.out] at hs ha
          have e1 : ostep s (1, bt) = s &&& (18446744073709551615 - bt) := by simp_all [ostep]
          have e2 : oask s (1, bt) = false := by simp_all [oask]
          refine ⟨k + 1, by omega, by go_num, ?_, ?_, ?_, hB5⟩
          · rw [ovals_succ, hs, e1]; exact ho6
          · rw [ha, e2]; exact ho5
          · rw [hs, e1]; exact hb5
        case measure => simp [intOf]; omega
      · go_wp2_with (go_at_call 23; refine (Clear_calls _ _ s bt hst hbt hcgA hfgA).mono ?_; rintro e w2 ⟨rfl, hw2⟩; have hb2' := Lib.hid (hw2 ▸ hbA.out.set_ 0 (.int .u64 (0 : Nat))); have ho1B := Lib.hid (hw2 ▸ own_setCell ho1A.out hbA.out (by decide) 0 (.int .u64 (0 : Nat))); have ho2B := Lib.hid (hw2 ▸ own_setCell ho2A.out hbA.out (by decide) 0 (.int .u64 (0 : Nat))); have hBB := hw2 ▸ hBA.setCell (p := ⟨w.heap.size, 0, none⟩) (Nat.le_refl _) (.int .u64 (0 : Nat)); have hcB := hb2'.out.cell 0; simp at hcB; clear hw2)
        go_wp2_with (first
          | (go_at_call 26; refine (Value_calls _ _).mono ?_; rintro e w3 ⟨rfl, rfl⟩)
          
          | (at_builtin; refine wpList_append_any _ rfl (.tmp 42) (.tmp 45) 31 rfl w.heap.size 23 i1 (.int .u64 0) 1 8 Try.underlying31 hi1 ha1 hb1 hc1 rfl (by decide) u5 k (ovals xs k) rfl (own_below ho1B.out (below_alloc' (Below.refl _ _) _)) (some ⟨w2.heap.size, 0, none⟩) 1 1 [.int .u64 (0 : Nat)] rfl (by simpa using reads_lit w2 1 1 [.int .u64 (0 : Nat)] #[.int .u64 (0 : Nat)] rfl rfl 23) (fun u hu => by simp at hu; subst hu; rfl) (by unfold maxLen; omega) (by omega) (size_alloc_le hBB _) ?_; intro v1 w4 ho3 hg3 hat3; have hB4 := (below_alloc' hBB _).grown hg3 (size_alloc_le hBB _) (fun q hq => own_block_ge ho1B.out q hq); have ho4 := Lib.hid ((own_below ho2B.out (below_alloc' (Below.refl _ _) (.cells #[.int .u64 (0 : Nat)] 23))).kept hg3 (own_type_ne ho2B.out ho1B.out (by decide))); have hb4 := Lib.hid ((hb2'.out.alloc (.cells #[.int .u64 (0 : Nat)] 23)).grown hg3 (own_blk_ne ho1B.out hb2'.out (by decide))); have ho3 := Lib.hid ho3; clear hat3; have hg3 := Lib.hid hg3)
          | (at_builtin; refine wpList_append_any _ rfl (.tmp 47) (.tmp 49) 32 rfl w.heap.size 4 i2 (.bool false) 1 1 Try.underlying32 hi2 ha2 hb2 hc2 rfl (by decide) u6 k (oasks xs k) rfl (own_below ho4.out (below_alloc' (Below.refl _ _) _)) (some ⟨w4.heap.size, 0, none⟩) 1 1 [.bool false] rfl (reads_lit w4 1 1 _ #[.bool false] rfl rfl 4) (fun u hu => by simp at hu; subst hu; rfl) (by unfold maxLen; omega) (by omega) (size_alloc_le hB4 _) ?_; intro v2 w5 ho5 hg5 hat5; have hB5 := (below_alloc' hB4 _).grown hg5 (size_alloc_le hB4 _) (fun q hq => own_block_ge ho4.out q hq); have ho6 := Lib.hid ((own_below ho3.out (below_alloc' (Below.refl _ _) (.cells #[.bool false] 4))).kept hg5 (own_type_ne ho3.out ho4.out (by decide))); have hb5 := Lib.hid ((hb4.out.alloc (.cells #[.bool false] 4)).grown hg5 (own_blk_ne ho4.out hb4.out (by decide))); have ho5 := Lib.hid ho5; clear hat5; have hg5 := Lib.hid hg5))
        go_roundw
        case rel =>
          have hs := ost_succ xs k hlt
          have ha := oasks_succ xs k hlt
          rw [← HX.out, ← HS.out] at hs ha
          have e1 : ostep s (2, bt) = 0 := by simp_all [ostep]
          have e2 : oask s (2, bt) = false := by simp_all [oask]
          refine ⟨k + 1, by omega, by go_num, ?_, ?_, ?_, hB5⟩
          · rw [ovals_succ, hs, e1]; exact ho6
          · rw [ha, e2]; exact ho5
          · rw [hs, e1]; exact hb5
        case measure => simp [intOf]; omega
      · go_wp2_with (go_at_call 24; refine (Set_calls _ _ s bt hst hbt hcgA hfgA).mono ?_; rintro e w2 ⟨rfl, hw2⟩; have hb2' := Lib.hid (hw2 ▸ hbA.out.set_ 0 (.int .u64 (bt : Nat))); have ho1B := Lib.hid (hw2 ▸ own_setCell ho1A.out hbA.out (by decide) 0 (.int .u64 (bt : Nat))); have ho2B := Lib.hid (hw2 ▸ own_setCell ho2A.out hbA.out (by decide) 0 (.int .u64 (bt : Nat))); have hBB := hw2 ▸ hBA.setCell (p := ⟨w.heap.size, 0, none⟩) (Nat.le_refl _) (.int .u64 (bt : Nat)); have hcB := hb2'.out.cell 0; simp at hcB; clear hw2)
        go_wp2_with (first
          | (go_at_call 26; refine (Value_calls _ _).mono ?_; rintro e w3 ⟨rfl, rfl⟩)
          
          | (at_builtin; refine wpList_append_any _ rfl (.tmp 42) (.tmp 45) 31 rfl w.heap.size 23 i1 (.int .u64 0) 1 8 Try.underlying31 hi1 ha1 hb1 hc1 rfl (by decide) u5 k (ovals xs k) rfl (own_below ho1B.out (below_alloc' (Below.refl _ _) _)) (some ⟨w2.heap.size, 0, none⟩) 1 1 [.int .u64 (bt : Nat)] rfl (by simpa using reads_lit w2 1 1 [.int .u64 (bt : Nat)] #[.int .u64 (bt : Nat)] rfl rfl 23) (fun u hu => by simp at hu; subst hu; rfl) (by unfold maxLen; omega) (by omega) (size_alloc_le hBB _) ?_; intro v1 w4 ho3 hg3 hat3; have hB4 := (below_alloc' hBB _).grown hg3 (size_alloc_le hBB _) (fun q hq => own_block_ge ho1B.out q hq); have ho4 := Lib.hid ((own_below ho2B.out (below_alloc' (Below.refl _ _) (.cells #[.int .u64 (bt : Nat)] 23))).kept hg3 (own_type_ne ho2B.out ho1B.out (by decide))); have hb4 := Lib.hid ((hb2'.out.alloc (.cells #[.int .u64 (bt : Nat)] 23)).grown hg3 (own_blk_ne ho1B.out hb2'.out (by decide))); have ho3 := Lib.hid ho3; clear hat3; have hg3 := Lib.hid hg3)
          | (at_builtin; refine wpList_append_any _ rfl (.tmp 47) (.tmp 49) 32 rfl w.heap.size 4 i2 (.bool false) 1 1 Try.underlying32 hi2 ha2 hb2 hc2 rfl (by decide) u6 k (oasks xs k) rfl (own_below ho4.out (below_alloc' (Below.refl _ _) _)) (some ⟨w4.heap.size, 0, none⟩) 1 1 [.bool false] rfl (reads_lit w4 1 1 _ #[.bool false] rfl rfl 4) (fun u hu => by simp at hu; subst hu; rfl) (by unfold maxLen; omega) (by omega) (size_alloc_le hB4 _) ?_; intro v2 w5 ho5 hg5 hat5; have hB5 := (below_alloc' hB4 _).grown hg5 (size_alloc_le hB4 _) (fun q hq => own_block_ge ho4.out q hq); have ho6 := Lib.hid ((own_below ho3.out (below_alloc' (Below.refl _ _) (.cells #[.bool false] 4))).kept hg5 (own_type_ne ho3.out ho4.out (by decide))); have hb5 := Lib.hid ((hb4.out.alloc (.cells #[.bool false] 4)).grown hg5 (own_blk_ne ho4.out hb4.out (by decide))); have ho5 := Lib.hid ho5; clear hat5; have hg5 := Lib.hid hg5))
        go_roundw
        case rel =>
          have hs := ost_succ xs k hlt
          have ha := oasks_succ xs k hlt
          rw [← HX.out, ← HS.out] at hs ha
          have e1 : ostep s (3, bt) = bt := by simp_all [ostep]
          have e2 : oask s (3, bt) = false := by simp_all [oask]
          refine ⟨k + 1, by omega, by go_num, ?_, ?_, ?_, hB5⟩
          · rw [ovals_succ, hs, e1]; exact ho6
          · rw [ha, e2]; exact ho5
          · rw [hs, e1]; exact hb5
        case measure => simp [intOf]; omega
      · skip
        go_wp2_with (first
          | (go_at_call 26; refine (Value_calls _ _).mono ?_; rintro e w3 ⟨rfl, rfl⟩)
          | (go_at_call 25; refine (IsEnabled_calls _ s bt hst hbt).mono ?_; rintro e w3 ⟨rfl, rfl⟩)
          | (at_builtin; refine wpList_append_any _ rfl (.tmp 42) (.tmp 45) 31 rfl w.heap.size 23 i1 (.int .u64 0) 1 8 Try.underlying31 hi1 ha1 hb1 hc1 rfl (by decide) u5 k (ovals xs k) rfl (own_below ho1A.out (below_alloc' (Below.refl _ _) _)) (some ⟨wr.heap.size + 1, 0, none⟩) 1 1 [.int .u64 (s : Nat)] rfl (by simpa using reads_lit (wr.alloc (.cells #[.int .i64 4, .int .u64 bt] 29)) 1 1 [.int .u64 (s : Nat)] #[.int .u64 (s : Nat)] rfl rfl 23) (fun u hu => by simp at hu; subst hu; rfl) (by unfold maxLen; omega) (by omega) (size_alloc_le hBA _) ?_; intro v1 w4 ho3 hg3 hat3; have hB4 := (below_alloc' hBA _).grown hg3 (size_alloc_le hBA _) (fun q hq => own_block_ge ho1A.out q hq); have ho4 := Lib.hid ((own_below ho2A.out (below_alloc' (Below.refl _ _) (.cells #[.int .u64 (s : Nat)] 23))).kept hg3 (own_type_ne ho2A.out ho1A.out (by decide))); have hb4 := Lib.hid ((hbA.out.alloc (.cells #[.int .u64 (s : Nat)] 23)).grown hg3 (own_blk_ne ho1A.out hbA.out (by decide))); have ho3 := Lib.hid ho3; clear hat3; have hg3 := Lib.hid hg3)
          | (at_builtin; refine wpList_append_any _ rfl (.tmp 47) (.tmp 49) 32 rfl w.heap.size 4 i2 (.bool false) 1 1 Try.underlying32 hi2 ha2 hb2 hc2 rfl (by decide) u6 k (oasks xs k) rfl (own_below ho4.out (below_alloc' (Below.refl _ _) _)) (some ⟨w4.heap.size, 0, none⟩) 1 1 [.bool (s &&& bt == bt)] rfl (reads_lit w4 1 1 _ #[.bool (s &&& bt == bt)] rfl rfl 4) (fun u hu => by simp at hu; subst hu; rfl) (by unfold maxLen; omega) (by omega) (size_alloc_le hB4 _) ?_; intro v2 w5 ho5 hg5 hat5; have hB5 := (below_alloc' hB4 _).grown hg5 (size_alloc_le hB4 _) (fun q hq => own_block_ge ho4.out q hq); have ho6 := Lib.hid ((own_below ho3.out (below_alloc' (Below.refl _ _) (.cells #[.bool (s &&& bt == bt)] 4))).kept hg5 (own_type_ne ho3.out ho4.out (by decide))); have hb5 := Lib.hid ((hb4.out.alloc (.cells #[.bool (s &&& bt == bt)] 4)).grown hg5 (own_blk_ne ho4.out hb4.out (by decide))); have ho5 := Lib.hid ho5; clear hat5; have hg5 := Lib.hid hg5))
        go_roundw
        case rel =>
          have hs := ost_succ xs k hlt
          have ha := oasks_succ xs k hlt
          rw [← HX.out, ← HS.out] at hs ha
          have e1 : ostep s (4, bt) = s := by simp_all [ostep]
          have e2 : oask s (4, bt) = (s &&& bt == bt) := by simp_all [oask]
          refine ⟨k + 1, by omega, by go_num, ?_, ?_, ?_, hB5⟩
          · rw [ovals_succ, hs, e1]; exact ho6
          · rw [ha, e2]; exact ho5
          · rw [hs, e1]; exact hb5
        case measure => simp [intOf]; omega
      · have K0 : ((kd : Int) == 0) = false := beq_eq_false_iff_ne.2 k0
        have K1 : ((kd : Int) == 1) = false := beq_eq_false_iff_ne.2 k1
        have K2 : ((kd : Int) == 2) = false := beq_eq_false_iff_ne.2 k2
        have K3 : ((kd : Int) == 3) = false := beq_eq_false_iff_ne.2 k3
        have K4 : ((kd : Int) == 4) = false := beq_eq_false_iff_ne.2 k4
        go_wp2_with (first
          | (go_at_call 26; refine (Value_calls _ _).mono ?_; rintro e w3 ⟨rfl, rfl⟩)
          
          | (at_builtin; refine wpList_append_any _ rfl (.tmp 42) (.tmp 45) 31 rfl w.heap.size 23 i1 (.int .u64 0) 1 8 Try.underlying31 hi1 ha1 hb1 hc1 rfl (by decide) u5 k (ovals xs k) rfl (own_below ho1A.out (below_alloc' (Below.refl _ _) _)) (some ⟨wr.heap.size + 1, 0, none⟩) 1 1 [.int .u64 (s : Nat)] rfl (by simpa using reads_lit (wr.alloc (.cells #[.int .i64 kd, .int .u64 bt] 29)) 1 1 [.int .u64 (s : Nat)] #[.int .u64 (s : Nat)] rfl rfl 23) (fun u hu => by simp at hu; subst hu; rfl) (by unfold maxLen; omega) (by omega) (size_alloc_le hBA _) ?_; intro v1 w4 ho3 hg3 hat3; have hB4 := (below_alloc' hBA _).grown hg3 (size_alloc_le hBA _) (fun q hq => own_block_ge ho1A.out q hq); have ho4 := Lib.hid ((own_below ho2A.out (below_alloc' (Below.refl _ _) (.cells #[.int .u64 (s : Nat)] 23))).kept hg3 (own_type_ne ho2A.out ho1A.out (by decide))); have hb4 := Lib.hid ((hbA.out.alloc (.cells #[.int .u64 (s : Nat)] 23)).grown hg3 (own_blk_ne ho1A.out hbA.out (by decide))); have ho3 := Lib.hid ho3; clear hat3; have hg3 := Lib.hid hg3)
          | (at_builtin; refine wpList_append_any _ rfl (.tmp 47) (.tmp 49) 32 rfl w.heap.size 4 i2 (.bool false) 1 1 Try.underlying32 hi2 ha2 hb2 hc2 rfl (by decide) u6 k (oasks xs k) rfl (own_below ho4.out (below_alloc' (Below.refl _ _) _)) (some ⟨w4.heap.size, 0, none⟩) 1 1 [.bool false] rfl (reads_lit w4 1 1 _ #[.bool false] rfl rfl 4) (fun u hu => by simp at hu; subst hu; rfl) (by unfold maxLen; omega) (by omega) (size_alloc_le hB4 _) ?_; intro v2 w5 ho5 hg5 hat5; have hB5 := (below_alloc' hB4 _).grown hg5 (size_alloc_le hB4 _) (fun q hq => own_block_ge ho4.out q hq); have ho6 := Lib.hid ((own_below ho3.out (below_alloc' (Below.refl _ _) (.cells #[.bool false] 4))).kept hg5 (own_type_ne ho3.out ho4.out (by decide))); have hb5 := Lib.hid ((hb4.out.alloc (.cells #[.bool false] 4)).grown hg5 (own_blk_ne ho4.out hb4.out (by decide))); have ho5 := Lib.hid ho5; clear hat5; have hg5 := Lib.hid hg5))
        go_roundw
        case rel =>
          have hs := ost_succ xs k hlt
          have ha := oasks_succ xs k hlt
          rw [← HX.out, ← HS.out] at hs ha
          have e1 : ostep s (kd, bt) = s := by simp_all [ostep]
          have e2 : oask s (kd, bt) = false := by simp_all [oask]
          refine ⟨k + 1, by omega, by go_num, ?_, ?_, ?_, hB5⟩
          · rw [ovals_succ, hs, e1]; exact ho6
          · rw [ha, e2]; exact ho5
          · rw [hs, e1]; exact hb5
        case measure => simp [intOf]; omega
    · obtain rfl : k = xs.length := by omega
      go_wp2
      go_ret2
      exact ⟨_, _, rfl, ho1.out, ho2.out, hB⟩
end Go.Proofs.Ytefabkcfeekfiaa.Opt
