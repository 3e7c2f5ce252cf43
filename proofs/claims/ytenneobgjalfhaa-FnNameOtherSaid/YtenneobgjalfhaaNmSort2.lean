/- heapSort_func over an invariant. The conditions: sizes below 2^40. -/
import Derived.Test.YtenneobgjalfhaaNmSort
import Derived.Test.YtenneobgjalfhaaProg
import Derived.Great.Walk
import Derived.RegionTactic
import Derived.StillTailTactics
import Derived.Deep.Cut
import Derived.Deep.CutBlock
import Derived.Deep.RegionHeld3
set_option linter.unusedVariables false
set_option linter.unusedSimpArgs false
namespace Go.Proofs.Ytenneobgjalfhaa.So
open Go.RowKit Go.Proofs.Ytenneobgjalfhaa.K
section
variable {g sf : Nat} {lb sb : Array Value} {Inv : World → Prop} {blk B n : Nat}
set_option maxRecDepth 100000 in
set_option maxHeartbeats 2000000 in
theorem heapSort_calls (hK : Keeps g sf lb sb Inv blk B n) (w : World) (hI : Inv w) (a b : Nat) (hab : a ≤ b) (hb : b ≤ n) :
    Calls Try.prog 75 #[.agg #[.func (.func g) #[] lb, .func (.func sf) #[] sb], .int .i64 a, .int .i64 b] w (SPost Inv blk w) := by
  have eg := hK.enters
  have hn := hK.most
  have hblk : blk < w.heap.size := Nat.lt_of_lt_of_le hK.row (hK.size w hI)
  have HK := Lib.hid hK
  have hb0 := Blk.new w 98 #[.func (.func g) #[] lb, .func (.func sf) #[] sb]
  have hg0 := World.grownBy_alloc w (.cells #[.func (.func g) #[] lb, .func (.func sf) #[] sb] 98) (some blk)
  have HI0 := Lib.hid (hK.grow _ _ none hI (World.grownBy_alloc w (.cells #[.func (.func g) #[] lb, .func (.func sf) #[] sb] 98) none) (by intro j hj; cases hj))
  have HB0 := Lib.hid hb0
  have HG0 := Lib.hid hg0
  clear hK hb0 hg0 hI
  have hz : -1 ≤ ((b : Int) - a - 1).tdiv 2 ∧ ((b : Int) - a - 1).tdiv 2 ≤ n := by
    rcases Nat.eq_or_lt_of_le hab with h | h
    · subst h
      rw [show ((a : Int) - a - 1) = -1 by omega]
      exact ⟨by decide, by have : (-1 : Int).tdiv 2 = 0 := by decide
                           omega⟩
    · rw [Int.tdiv_eq_ediv_of_nonneg (by omega)]
      omega
  obtain ⟨z0, hz0⟩ : ∃ z0, z0 = ((b : Int) - a - 1).tdiv 2 := ⟨_, rfl⟩
  rw [← hz0] at hz
  have hba : ((b - a : Nat) : Int) = (b : Int) - a := by omega
  go_enter Try.func75, Try.ntmps75
  go_wp2
  go_loopw [9] (fun vi wr => ∃ z : Int, vi = .int .i64 z ∧ -1 ≤ z ∧ z ≤ n ∧ Hid (Inv wr) ∧ Hid (w.grownBy wr (some blk)) ∧ Hid (Blk wr w.heap.size 98 #[.func (.func g) #[] lb, .func (.func sf) #[] sb])) (fun vi _ => (intOf vi + 1).toNat)
  case atStart => exact ⟨z0, by go_num, hz.1, hz.2, HI0, HG0, HB0⟩
  case round =>
    obtain ⟨z, rfl, hz1, hz2, HI, HG, HB⟩ := hrel
    by_cases hzp : 0 ≤ z
    · obtain ⟨k, rfl⟩ := Int.eq_ofNat_of_zero_le hzp
      have c0 : wr.cell? ⟨w.heap.size, 0, none⟩ = some (.func (.func g) #[] lb) := by rw [HB.out.cell]; rfl
      have c1 : wr.cell? ⟨w.heap.size, 1, none⟩ = some (.func (.func sf) #[] sb) := by rw [HB.out.cell]; rfl
      have hl := siftDown_calls HK.out wr HI.out k (b - a) a (by omega) (by omega)
      rw [hba] at hl
      have HL := Lib.hid hl
      clear hl
      go_wp2_with fail
      refine HL.out.mono ?_
      rintro e w3 ⟨rfl, hI3, hg3⟩
      have HI3 := Lib.hid hI3
      have HG3 := Lib.hid (grown_trans HG.out hg3)
      have HB3 := Lib.hid (HB.out.grown hg3 (by intro e; injection e with e; omega))
      clear hI3 hg3 HL c0 c1
      go_wp2
      exact ⟨⟨(k : Int) - 1, by go_num, by omega, by omega, HI3, HG3, HB3⟩, by simp [intOf]⟩
    · go_wp2
      go_loopw [10] (fun vi wr => ∃ z : Int, vi = .int .i64 z ∧ -1 ≤ z ∧ z ≤ (b : Int) - a - 1 ∧ Hid (Inv wr) ∧ Hid (w.grownBy wr (some blk)) ∧ Hid (Blk wr w.heap.size 98 #[.func (.func g) #[] lb, .func (.func sf) #[] sb])) (fun vi _ => (intOf vi + 1).toNat)
      case atStart => exact ⟨(b : Int) - a - 1, by go_num, by omega, by omega, HI, HG, HB⟩
      case round =>
        clear HI HG HB hzp hz1 hz2
        obtain ⟨z2, rfl, hz1, hz2, HI, HG, HB⟩ := hrel
        by_cases hzp : 0 ≤ z2
        · obtain ⟨k, rfl⟩ := Int.eq_ofNat_of_zero_le hzp
          have c1 : wr.cell? ⟨w.heap.size, 1, none⟩ = some (.func (.func sf) #[] sb) := by rw [HB.out.cell]; rfl
          obtain ⟨w4, hs, hI4, hg4⟩ := HK.out.swap wr a (a + k) HI.out (by omega) (by omega)
          push_cast at hs
          have HI4 := Lib.hid hI4
          have HG4 := Lib.hid (grown_trans HG.out hg4)
          have HB4 := Lib.hid (HB.out.grown hg4 (by intro e; injection e with e; omega))
          have d0 : w4.cell? ⟨w.heap.size, 0, none⟩ = some (.func (.func g) #[] lb) := by rw [HB4.out.cell]; rfl
          have d1 : w4.cell? ⟨w.heap.size, 1, none⟩ = some (.func (.func sf) #[] sb) := by rw [HB4.out.cell]; rfl
          have HL := Lib.hid (siftDown_calls HK.out w4 hI4 0 k a (by omega) (by omega))
          clear hI4 hg4 HI HG HB
          go_wp2_with fail
          refine HL.out.mono ?_
          rintro e w3 ⟨rfl, hI3, hg3⟩
          have HI3 := Lib.hid hI3
          have HG3 := Lib.hid (grown_trans HG4.out hg3)
          have HB3 := Lib.hid (HB4.out.grown hg3 (by intro e; injection e with e; omega))
          clear hI3 hg3 HL c1 d0 d1 hs
          go_wp2
          exact ⟨⟨(k : Int) - 1, by go_num, by omega, by omega, HI3, HG3, HB3⟩, by simp [intOf]⟩
        · go_wp2
          go_end0
          exact ⟨rfl, HI.out, HG.out⟩
end
end Go.Proofs.Ytenneobgjalfhaa.So
