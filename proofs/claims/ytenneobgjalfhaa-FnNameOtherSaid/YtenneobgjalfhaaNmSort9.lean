/- partialInsertionSort_func over an invariant. The conditions: sizes below 2^40. -/
import Derived.Test.YtenneobgjalfhaaNmSort2
import Derived.Test.YtenneobgjalfhaaProg
import Derived.Great.Walk
import Derived.RegionTactic
import Derived.StillTailTactics
import Derived.Deep.Cut
import Derived.Deep.CutBlock
import Derived.Deep.RegionHeld3
set_option linter.unusedVariables false
set_option linter.unusedSimpArgs false
namespace Go.Proofs.Ytenneobgjalfhaa.So
open Go.RowKit Go.Proofs.Ytenneobgjalfhaa.K
section
variable {g sf : Nat} {lb sb : Array Value} {Inv : World → Prop} {blk B n : Nat}
def PiPost (Inv : World → Prop) (blk : Nat) (w : World) (e : Ending) (w' : World) : Prop := ∃ q : Bool, e = .returned (.bool q) ∧ Inv w' ∧ w.grownBy w' (some blk)
set_option maxRecDepth 100000 in
set_option maxHeartbeats 4000000 in
theorem partialInsertionSort_calls (hK : Keeps g sf lb sb Inv blk B n) (w : World) (hI : Inv w) (a b : Nat) (hab : a < b) (hb : b ≤ n) (h50 : n < 50) :
    Calls Try.prog 79 #[.agg #[.func (.func g) #[] lb, .func (.func sf) #[] sb], .int .i64 a, .int .i64 b] w (PiPost Inv blk w) := by
  have eg := hK.enters
  have hn := hK.most
  have hblk : blk < w.heap.size := Nat.lt_of_lt_of_le hK.row (hK.size w hI)
  have HK := Lib.hid hK
  have hb0 := Blk.new w 98 #[.func (.func g) #[] lb, .func (.func sf) #[] sb]
  have hg0 := World.grownBy_alloc w (.cells #[.func (.func g) #[] lb, .func (.func sf) #[] sb] 98) (some blk)
  have HI0 := Lib.hid (hK.grow _ _ none hI (World.grownBy_alloc w (.cells #[.func (.func g) #[] lb, .func (.func sf) #[] sb] 98) none) (by intro j hj; cases hj))
  have HB0 := Lib.hid hb0
  have HG0 := Lib.hid hg0
  clear hK hb0 hg0 hI
  have hs50 : (b : Int) - a < 50 := by omega
  go_enter Try.func79, Try.ntmps79
  go_wp2
  go_loopw [7, 8] (fun vi vj wr => vi = .int .i64 ((a : Int) + 1) ∧ vj = .int .i64 0 ∧ Hid (Inv wr) ∧ Hid (w.grownBy wr (some blk)) ∧ Hid (Blk wr w.heap.size 98 #[.func (.func g) #[] lb, .func (.func sf) #[] sb])) (fun _ _ _ => 0)
  case atStart => exact ⟨rfl, rfl, HI0, HG0, HB0⟩
  case round =>
    obtain ⟨rfl, rfl, HI, HG, HB⟩ := hrel
    clear HI0 HG0 HB0
    go_wp2
    go_loopw [7] (fun vi wr => ∃ i : Nat, vi = .int .i64 i ∧ a + 1 ≤ i ∧ i ≤ b ∧ Hid (Inv wr) ∧ Hid (w.grownBy wr (some blk)) ∧ Hid (Blk wr w.heap.size 98 #[.func (.func g) #[] lb, .func (.func sf) #[] sb])) (fun vi _ => b - (intOf vi).toNat)
    case atStart => exact ⟨a + 1, by go_num, by omega, by omega, HI, HG, HB⟩
    case round =>
      clear HI HG HB
      obtain ⟨i, rfl, hai, hib, HI, HG, HB⟩ := hrel
      by_cases hlt : i < b
      · have hlti : (i : Int) < b := by omega
        have e1 : ((i - 1 : Nat) : Int) = (i : Int) - 1 := by omega
        have c0 : wr.cell? ⟨w.heap.size, 0, none⟩ = some (.func (.func g) #[] lb) := by rw [HB.out.cell]; rfl
        have hl := HK.out.less wr (i) (i - 1) HI.out (by omega) (by omega)
        rw [e1] at hl
        have HL := Lib.hid hl
        clear e1
        clear hl
        go_wp2_with fail
        go_at_fn g
        refine HL.out.mono ?_
        rintro e w3 ⟨bv, rfl, hI3, hg3⟩
        have HI3 := Lib.hid hI3
        have HG3 := Lib.hid (grown_trans HG.out hg3)
        have HB3 := Lib.hid (HB.out.grown hg3 (by intro e; injection e with e; omega))
        clear hI3 hg3 HL c0
        cases bv with
        | false =>
          go_wp2
          exact ⟨⟨i + 1, by go_num, by omega, by omega, HI3, HG3, HB3⟩, by simp [intOf]; omega⟩
        | true =>
          have hne : ((i : Int) == b) = false := by simp; omega
          have hne2 : ¬ ((i : Int) = b) := by omega
          go_wp2
          go_ret
          exact ⟨false, rfl, HI3.out, HG3.out⟩
      · obtain rfl : i = b := by omega
        go_wp2
        go_ret
        exact ⟨true, rfl, HI.out, HG.out⟩
end
end Go.Proofs.Ytenneobgjalfhaa.So
