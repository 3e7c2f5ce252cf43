/- breakPatterns_func over an invariant. The conditions: sizes below 2^40. -/
import Derived.Test.YtenneobgjalfhaaNmSort2
import Derived.Test.YtenneobgjalfhaaNmSort10
import Derived.Laws.Bits64b
import Derived.Test.YtenneobgjalfhaaProg
import Derived.Great.Walk
import Derived.RegionTactic
import Derived.StillTailTactics
import Derived.Deep.Cut
import Derived.Deep.CutBlock
import Derived.Deep.RegionHeld3
set_option linter.unusedVariables false
set_option linter.unusedSimpArgs false
namespace Go.Proofs.Ytenneobgjalfhaa.So
open Go.RowKit Go.Proofs.Ytenneobgjalfhaa.K
section
variable {g sf : Nat} {lb sb : Array Value} {Inv : World → Prop} {blk B n : Nat}
theorem grown_far {w wr : World} {row : Option Nat} (h : w.grownBy wr row) (c : Nat) (hc : w.heap.size ≤ c) (u : Value) : w.grownBy (wr.setCell ⟨c, 0, none⟩ u) row :=
  ⟨h.os, h.tape, h.output, by simpa [World.setCell] using h.size, fun k hk hr => (Below.heap_setCell wr ⟨c, 0, none⟩ u k (by show k ≠ c; omega)).trans (h.block k hk hr)⟩
set_option maxRecDepth 100000 in
set_option maxHeartbeats 4000000 in
theorem breakPatterns_calls (hK : Keeps g sf lb sb Inv blk B n) (w : World) (hI : Inv w) (a b : Nat) (hab : a + 8 ≤ b) (hb : b ≤ n) (h20 : n < 20) :
    Calls Try.prog 76 #[.agg #[.func (.func g) #[] lb, .func (.func sf) #[] sb], .int .i64 a, .int .i64 b] w (SPost Inv blk w) := by
  have eg := hK.enters
  have hn := hK.most
  have hblk : blk < w.heap.size := Nat.lt_of_lt_of_le hK.row (hK.size w hI)
  have HK := Lib.hid hK
  have hb0 := Blk.new w 98 #[.func (.func g) #[] lb, .func (.func sf) #[] sb]
  have hg0 := World.grownBy_alloc w (.cells #[.func (.func g) #[] lb, .func (.func sf) #[] sb] 98) (some blk)
  have HI0 := Lib.hid (hK.grow _ _ none hI (World.grownBy_alloc w (.cells #[.func (.func g) #[] lb, .func (.func sf) #[] sb] 98) none) (by intro j hj; cases hj))
  have HB0 := Lib.hid hb0
  have HG0 := Lib.hid hg0
  clear hK hb0 hg0 hI
  obtain ⟨q, hq⟩ := Int.eq_ofNat_of_zero_le (show 0 ≤ ((b : Int) - a).tdiv 4 by rw [Int.tdiv_eq_ediv_of_nonneg (by omega)]; omega)
  have hq1 : 4 * q ≤ b - a := by rw [Int.tdiv_eq_ediv_of_nonneg (by omega)] at hq; omega
  have hq2 : 2 ≤ q := by rw [Int.tdiv_eq_ediv_of_nonneg (by omega)] at hq; omega
  have h8 : (8 : Int) ≤ (b : Int) - a := by omega
  have hBw : B ≤ w.heap.size + 1 := by have := HK.out.size _ HI0.out; simpa using this
  obtain ⟨W0, hW0⟩ : ∃ W0, W0 = w.alloc (.cells #[.func (.func g) #[] lb, .func (.func sf) #[] sb] 98) := ⟨_, rfl⟩
  rw [← hW0] at HI0 HG0 HB0
  have hW0s : W0.heap.size = w.heap.size + 1 := by rw [hW0]; simp
  have hwu : IntKind.u64.wrap ((b : Int) - a) = (b : Int) - a := by rw [IntKind.wrap_u64]; omega
  obtain ⟨W1, hW1⟩ : ∃ W1, W1 = W0.alloc (.cells #[.int .u64 ((b : Int) - a)] 119) := ⟨_, rfl⟩
  have HI1 := Lib.hid (show Inv W1 by rw [hW1]; exact HK.out.grow _ _ none HI0.out (World.grownBy_alloc _ _ none) (by intro j hj; cases hj))
  have HG1 := Lib.hid (show w.grownBy W1 (some blk) by rw [hW1]; exact grown_trans HG0.out (World.grownBy_alloc _ _ _))
  have HB1 := Lib.hid (show Blk W1 w.heap.size 98 #[.func (.func g) #[] lb, .func (.func sf) #[] sb] by rw [hW1]; exact HB0.out.alloc _)
  have HC1 := Lib.hid (show ∃ X : Nat, X < 18446744073709551616 ∧ Blk W1 (w.heap.size + 1) 119 #[.int .u64 X] from ⟨b - a, by omega, by rw [hW1, ← hW0s, show (((b - a : Nat)) : Int) = (b : Int) - a by omega]; exact Blk.new W0 _ _⟩)
  obtain ⟨M, hM16, hM2, hM32, hP⟩ := nextPower_any W1 (b - a) (by omega) (by omega)
  rw [show (((b - a : Nat)) : Int) = (b : Int) - a by omega] at hP
  have HP := Lib.hid hP
  have HW := Lib.hid (And.intro hW0 hW1)
  clear HI0 HG0 HB0 hP hW0s hW0 hW1
  go_enter Try.func76, Try.ntmps76
  go_wp2_with fail
  rw [← HW.out.1, ← HW.out.2]
  refine HP.out.mono ?_
  rintro e w' ⟨rfl, rfl⟩
  clear HP HW
  go_wp2
  go_loopw [9] (fun vi wr => ∃ i : Nat, vi = .int .i64 i ∧ a + q * 2 ≤ i + 1 ∧ i ≤ a + q * 2 + 2 ∧ Hid (Inv wr) ∧ Hid (w.grownBy wr (some blk)) ∧ Hid (Blk wr w.heap.size 98 #[.func (.func g) #[] lb, .func (.func sf) #[] sb]) ∧ Hid (∃ X : Nat, X < 18446744073709551616 ∧ Blk wr (w.heap.size + 1) 119 #[.int .u64 X])) (fun vi _ => 1000 - (intOf vi).toNat)
  case atStart => exact ⟨a + q * 2 - 1, by congr 1 <;> omega, by omega, by omega, HI1, HG1, HB1, HC1⟩
  case round =>
    clear HI1 HG1 HB1 HC1
    obtain ⟨i, rfl, hi1, hi2, HI, HG, HB, HC⟩ := hrel
    by_cases hlt : i ≤ a + q * 2 + 1
    · have hlti : (i : Int) ≤ a + q * 2 + 1 := by omega
      obtain ⟨X, hX, hCX⟩ := HC.out
      have hcx : wr.cell? ⟨w.heap.size + 1, 0, none⟩ = some (.int .u64 X) := by rw [hCX.cell]; rfl
      have hN := Lib.hid (Next_calls wr (w.heap.size + 1) X hX hcx (hCX.frozen 0))
      have HX := Lib.hid hCX
      clear hcx hCX hX HC
      go_wp2_with fail
      refine hN.out.mono ?_
      rintro e w3 ⟨Y, hY, rfl, hw3⟩
      have HY := Lib.hid hY
      have HI3 := Lib.hid (show Inv w3 by rw [hw3]; exact HK.out.drew _ (HK.out.drew _ (HK.out.drew _ (HK.out.grow _ _ (some (w.heap.size + 1)) HI.out (setCell_grown wr ⟨w.heap.size + 1, 0, none⟩ _) (by intro j hj; injection hj with hj; omega)))))
      have HG3 := Lib.hid (show w.grownBy w3 (some blk) by rw [hw3]; exact grown_drewN (grown_far HG.out (w.heap.size + 1) (by omega) _) 3)
      have HB3 := Lib.hid (show Blk w3 w.heap.size 98 #[.func (.func g) #[] lb, .func (.func sf) #[] sb] by rw [hw3]; exact (HB.out.far (p := ⟨w.heap.size + 1, 0, none⟩) (by show w.heap.size ≠ w.heap.size + 1; omega) _).drewN 3)
      have HC3 := Lib.hid (show Blk w3 (w.heap.size + 1) 119 #[.int .u64 Y] by rw [hw3]; exact (HX.out.set_ 0 (.int .u64 Y)).drewN 3)
      have c1 : w3.cell? ⟨w.heap.size, 1, none⟩ = some (.func (.func sf) #[] sb) := by rw [HB3.out.cell]; rfl
      obtain ⟨O, hO⟩ : ∃ O : Nat, O = Y &&& (M - 1) := ⟨_, rfl⟩
      have lO : O ≤ M - 1 := by rw [hO]; exact Nat.and_le_right
      have eAnd : bits .and .u64 (Y : Int) ((M : Int) - 1) = (O : Int) := by
        rw [show ((M : Int) - 1) = ((M - 1 : Nat) : Int) by omega, bits_and_u64_nat _ _ hY (by omega), hO]
      clear hO hw3 hY hN HX HI HG HB
      by_cases hOk : b - a ≤ O
      · have hOi : (b : Int) - a ≤ O := by omega
        obtain ⟨w4, hs, hI4, hg4⟩ := HK.out.swap w3 i (a + (O - (b - a))) HI3.out (by omega) (by omega)
        rw [show ((a + (O - (b - a)) : Nat) : Int) = (a : Int) + ((O : Int) - ((b : Int) - (a : Int))) by omega] at hs
        have HI4 := Lib.hid hI4
        have HG4 := Lib.hid (grown_trans HG3.out hg4)
        have HB4 := Lib.hid (HB3.out.grown hg4 (by intro e; injection e with e; omega))
        have HC4 := Lib.hid (HC3.out.grown hg4 (by intro e; injection e with e; omega))
        have HY4 := HY
        clear hI4 hg4
        go_wp2
        go_roundw
        case rel => exact ⟨i + 1, by go_num, by omega, by omega, HI4, HG4, HB4, Lib.hid ⟨Y, HY4.out, HC4.out⟩⟩
        case measure => simp [intOf]; omega
      · have hOi : ¬ (b : Int) - a ≤ O := by omega
        obtain ⟨w4, hs, hI4, hg4⟩ := HK.out.swap w3 i (a + O) HI3.out (by omega) (by omega)
        rw [show ((a + O : Nat) : Int) = (a : Int) + (O : Int) by omega] at hs
        have HI4 := Lib.hid hI4
        have HG4 := Lib.hid (grown_trans HG3.out hg4)
        have HB4 := Lib.hid (HB3.out.grown hg4 (by intro e; injection e with e; omega))
        have HC4 := Lib.hid (HC3.out.grown hg4 (by intro e; injection e with e; omega))
        have HY4 := HY
        clear hI4 hg4
        go_wp2
        go_roundw
        case rel => exact ⟨i + 1, by go_num, by omega, by omega, HI4, HG4, HB4, Lib.hid ⟨Y, HY4.out, HC4.out⟩⟩
        case measure => simp [intOf]; omega
    · have hlti : ¬ (i : Int) ≤ a + q * 2 + 1 := by omega
      go_wp2
      go_end0
      exact ⟨rfl, HI.out, HG.out⟩
end
end Go.Proofs.Ytenneobgjalfhaa.So
