/- reverseRange_func over an invariant. The conditions: sizes below 2^40. -/
import Derived.Test.YtenneobgjalfhaaNmSort2
import Derived.Test.YtenneobgjalfhaaProg
import Derived.Great.Walk
import Derived.RegionTactic
import Derived.StillTailTactics
import Derived.Deep.Cut
import Derived.Deep.CutBlock
import Derived.Deep.RegionHeld3
set_option linter.unusedVariables false
set_option linter.unusedSimpArgs false
namespace Go.Proofs.Ytenneobgjalfhaa.So
open Go.RowKit Go.Proofs.Ytenneobgjalfhaa.K
section
variable {g sf : Nat} {lb sb : Array Value} {Inv : World → Prop} {blk B n : Nat}
set_option maxRecDepth 100000 in
set_option maxHeartbeats 2000000 in
theorem reverseRange_calls (hK : Keeps g sf lb sb Inv blk B n) (w : World) (hI : Inv w) (a b : Nat) (hab : a ≤ b) (hb : b ≤ n) :
    Calls Try.prog 78 #[.agg #[.func (.func g) #[] lb, .func (.func sf) #[] sb], .int .i64 a, .int .i64 b] w (SPost Inv blk w) := by
  have eg := hK.enters
  have hn := hK.most
  have hblk : blk < w.heap.size := Nat.lt_of_lt_of_le hK.row (hK.size w hI)
  have HK := Lib.hid hK
  have hb0 := Blk.new w 98 #[.func (.func g) #[] lb, .func (.func sf) #[] sb]
  have hg0 := World.grownBy_alloc w (.cells #[.func (.func g) #[] lb, .func (.func sf) #[] sb] 98) (some blk)
  have HI0 := Lib.hid (hK.grow _ _ none hI (World.grownBy_alloc w (.cells #[.func (.func g) #[] lb, .func (.func sf) #[] sb] 98) none) (by intro j hj; cases hj))
  have HB0 := Lib.hid hb0
  have HG0 := Lib.hid hg0
  clear hK hb0 hg0 hI
  go_enter Try.func78, Try.ntmps78
  go_wp2
  go_loopw [6, 7] (fun vi vj wr => ∃ (i : Nat) (z : Int), vi = .int .i64 i ∧ vj = .int .i64 z ∧ i ≤ n ∧ -1 ≤ z ∧ z ≤ (b : Int) - 1 ∧ Hid (Inv wr) ∧ Hid (w.grownBy wr (some blk)) ∧ Hid (Blk wr w.heap.size 98 #[.func (.func g) #[] lb, .func (.func sf) #[] sb])) (fun vi vj _ => (intOf vj - intOf vi).toNat)
  case atStart => exact ⟨a, (b : Int) - 1, rfl, by go_num, by omega, by omega, by omega, HI0, HG0, HB0⟩
  case round =>
    obtain ⟨i, z, rfl, rfl, hin, hz1, hz2, HI, HG, HB⟩ := hrel
    by_cases hlt : (i : Int) < z
    · obtain ⟨k, rfl⟩ := Int.eq_ofNat_of_zero_le (show 0 ≤ z by omega)
      have c1 : wr.cell? ⟨w.heap.size, 1, none⟩ = some (.func (.func sf) #[] sb) := by rw [HB.out.cell]; rfl
      obtain ⟨w4, hs, hI4, hg4⟩ := HK.out.swap wr i k HI.out (by omega) (by omega)
      have HI4 := Lib.hid hI4
      have HG4 := Lib.hid (grown_trans HG.out hg4)
      have HB4 := Lib.hid (HB.out.grown hg4 (by intro e; injection e with e; omega))
      clear hI4 hg4
      go_wp2
      exact ⟨⟨i + 1, (k : Int) - 1, by go_num, by go_num, by omega, by omega, by omega, HI4, HG4, HB4⟩, by simp [intOf]; omega⟩
    · go_wp2
      go_end0
      exact ⟨rfl, HI.out, HG.out⟩
end
end Go.Proofs.Ytenneobgjalfhaa.So
