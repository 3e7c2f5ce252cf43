/- The sort's functions over any invariant of the world that less and swap keep: they end, and the invariant stands. The conditions: sizes below 2^40. -/
import Derived.Test.YtenneobgjalfhaaK
import Derived.Test.YtenneobgjalfhaaProg
import Derived.Great.Walk
import Derived.RegionTactic
import Derived.StillTailTactics
import Derived.Deep.Cut
import Derived.Deep.CutBlock
import Derived.Deep.RegionHeld3
set_option linter.unusedVariables false
set_option linter.unusedSimpArgs false
namespace Go.Proofs.Ytenneobgjalfhaa.So
open Go.RowKit Go.Proofs.Ytenneobgjalfhaa.K
/-- What the sort keeps: an invariant, the block of the row, the size of the heap at the start. -/
structure Keeps (g sf : Nat) (lb sb : Array Value) (Inv : World → Prop) (blk B n : Nat) : Prop where
  size : ∀ W, Inv W → B ≤ W.heap.size
  row : blk < B
  most : n < 1000
  grow : ∀ W W' r, Inv W → W.grownBy W' r → (∀ j, r = some j → B ≤ j) → Inv W'
  drew : ∀ W, Inv W → Inv W.drew
  enters : ∀ args w, (callFunc g args).run Try.prog w = .ok (.enter g args) w
  less : ∀ W i j, Inv W → i < n → j < n → Calls Try.prog g (#[.int .i64 (i : Nat), .int .i64 (j : Nat)] ++ lb) W fun e W' => ∃ b : Bool, e = .returned (.bool b) ∧ Inv W' ∧ W.grownBy W' (some blk)
  swap : ∀ W i j, Inv W → i < n → j < n → ∃ W', (callFunc sf (#[.int .i64 (i : Nat), .int .i64 (j : Nat)] ++ sb)).run Try.prog W = .ok (.value (.tuple #[])) W' ∧ Inv W' ∧ W.grownBy W' (some blk)
def SPost (Inv : World → Prop) (blk : Nat) (W : World) (e : Ending) (W' : World) : Prop := e = .returned (.tuple #[]) ∧ Inv W' ∧ W.grownBy W' (some blk)
section
variable {g sf : Nat} {lb sb : Array Value} {Inv : World → Prop} {blk B n : Nat}
set_option maxRecDepth 100000 in
set_option maxHeartbeats 1000000 in
theorem insertionSort_calls (hK : Keeps g sf lb sb Inv blk B n) (w : World) (hI : Inv w) (a b : Nat) (hab : a ≤ b) (hb : b ≤ n) :
    Calls Try.prog 74 #[.agg #[.func (.func g) #[] lb, .func (.func sf) #[] sb], .int .i64 a, .int .i64 b] w (SPost Inv blk w) := by
  have eg := hK.enters
  have hn := hK.most
  have hblk : blk < w.heap.size := Nat.lt_of_lt_of_le hK.row (hK.size w hI)
  have HK := Lib.hid hK
  have hb0 := Blk.new w 98 #[.func (.func g) #[] lb, .func (.func sf) #[] sb]
  have hg0 := World.grownBy_alloc w (.cells #[.func (.func g) #[] lb, .func (.func sf) #[] sb] 98) (some blk)
  have HI0 := Lib.hid (hK.grow _ _ none hI (World.grownBy_alloc w (.cells #[.func (.func g) #[] lb, .func (.func sf) #[] sb] 98) none) (by intro j hj; cases hj))
  have HB0 := Lib.hid hb0
  have HG0 := Lib.hid hg0
  clear hK hb0 hg0 hI
  go_enter Try.func74, Try.ntmps74
  go_wp2
  go_loopw [6] (fun vi wr => ∃ i : Nat, vi = .int .i64 i ∧ a < i ∧ i ≤ b + 1 ∧ Hid (Inv wr) ∧ Hid (w.grownBy wr (some blk)) ∧ Hid (Blk wr w.heap.size 98 #[.func (.func g) #[] lb, .func (.func sf) #[] sb])) (fun vi _ => b + 1 - (intOf vi).toNat)
  case atStart => exact ⟨a + 1, by go_num, by omega, by omega, HI0, HG0, HB0⟩
  case round =>
    obtain ⟨i, rfl, hai, hib, HI, HG, HB⟩ := hrel
    by_cases hlt : i < b
    · go_wp2
      go_loopw [7] (fun vj wr2 => ∃ j : Nat, vj = .int .i64 j ∧ a ≤ j ∧ j ≤ i ∧ Hid (Inv wr2) ∧ Hid (w.grownBy wr2 (some blk)) ∧ Hid (Blk wr2 w.heap.size 98 #[.func (.func g) #[] lb, .func (.func sf) #[] sb])) (fun vj _ => (intOf vj).toNat)
      case atStart => exact ⟨i, rfl, by omega, Nat.le_refl _, HI, HG, HB⟩
      case round =>
        clear HI HG HB
        obtain ⟨j, rfl, haj, hji, HI, HG, HB⟩ := hrel
        by_cases hja : a < j
        · have c0 : wr.cell? ⟨w.heap.size, 0, none⟩ = some (.func (.func g) #[] lb) := by rw [HB.out.cell]; rfl
          have hl := HK.out.less wr j (j - 1) HI.out (by omega) (by omega)
          rw [show (((j - 1 : Nat) : Int)) = (j : Int) - 1 by omega] at hl
          have HL := Lib.hid hl
          clear hl
          go_wp2_with fail
          go_at_fn g
          refine HL.out.mono ?_
          rintro e w3 ⟨bv, rfl, hI3, hg3⟩
          have HI3 := Lib.hid hI3
          have HG3 := Lib.hid (grown_trans HG.out hg3)
          have HB3 := Lib.hid (HB.out.grown hg3 (by intro e; injection e with e; omega))
          have c1 : w3.cell? ⟨w.heap.size, 1, none⟩ = some (.func (.func sf) #[] sb) := by rw [HB3.out.cell]; rfl
          clear hI3 hg3 HL c0
          cases bv with
          | true =>
            obtain ⟨w4, hs, hI4, hg4⟩ := HK.out.swap w3 j (j - 1) HI3.out (by omega) (by omega)
            rw [show (((j - 1 : Nat) : Int)) = (j : Int) - 1 by omega] at hs
            have HI4 := Lib.hid hI4
            have HG4 := Lib.hid (grown_trans HG3.out hg4)
            have HB4 := Lib.hid (HB3.out.grown hg4 (by intro e; injection e with e; omega))
            clear hI4 hg4
            go_wp2
            exact ⟨⟨j - 1, by congr 1 <;> omega, by omega, by omega, HI4, HG4, HB4⟩, by simp [intOf]; omega⟩
          | false =>
            go_wp2
            go_roundw
            case rel => exact ⟨i + 1, by go_num, by omega, by omega, HI3, HG3, HB3⟩
            case measure => simp [intOf]; omega
        · go_wp2
          go_roundw
          case rel => exact ⟨i + 1, by go_num, by omega, by omega, HI, HG, HB⟩
          case measure => simp [intOf]; omega
    · go_wp2
      go_end0
      exact ⟨rfl, HI.out, HG.out⟩
set_option maxRecDepth 100000 in
set_option maxHeartbeats 2000000 in
theorem siftDown_calls (hK : Keeps g sf lb sb Inv blk B n) (w : World) (hI : Inv w) (lo hi first : Nat) (hf : first + hi ≤ n) (hlo : lo ≤ n) :
    Calls Try.prog 85 #[.agg #[.func (.func g) #[] lb, .func (.func sf) #[] sb], .int .i64 lo, .int .i64 hi, .int .i64 first] w (SPost Inv blk w) := by
  have eg := hK.enters
  have hn := hK.most
  have hblk : blk < w.heap.size := Nat.lt_of_lt_of_le hK.row (hK.size w hI)
  have HK := Lib.hid hK
  have hb0 := Blk.new w 98 #[.func (.func g) #[] lb, .func (.func sf) #[] sb]
  have hg0 := World.grownBy_alloc w (.cells #[.func (.func g) #[] lb, .func (.func sf) #[] sb] 98) (some blk)
  have HI0 := Lib.hid (hK.grow _ _ none hI (World.grownBy_alloc w (.cells #[.func (.func g) #[] lb, .func (.func sf) #[] sb] 98) none) (by intro j hj; cases hj))
  have HB0 := Lib.hid hb0
  have HG0 := Lib.hid hg0
  clear hK hb0 hg0 hI
  go_enter Try.func85, Try.ntmps85
  go_wp2
  go_loopw [8] (fun vi wr => ∃ r : Nat, vi = .int .i64 r ∧ r ≤ n ∧ Hid (Inv wr) ∧ Hid (w.grownBy wr (some blk)) ∧ Hid (Blk wr w.heap.size 98 #[.func (.func g) #[] lb, .func (.func sf) #[] sb])) (fun vi _ => 2000 - (intOf vi).toNat)
  case atStart => exact ⟨lo, rfl, hlo, HI0, HG0, HB0⟩
  case round =>
    obtain ⟨r, rfl, hrn, HI, HG, HB⟩ := hrel
    by_cases hch : 2 * r + 1 < hi
    · have hch' : (2 * (r : Int) + 1 < (hi : Int)) := by omega
      have hchn : ¬ ((hi : Int) ≤ 2 * (r : Int) + 1) := by omega
      by_cases hc2 : 2 * r + 1 + 1 < hi
      · have hc2' : (2 * (r : Int) + 1 + 1 < (hi : Int)) := by omega
        have c0 : wr.cell? ⟨w.heap.size, 0, none⟩ = some (.func (.func g) #[] lb) := by rw [HB.out.cell]; rfl
        have hl := HK.out.less wr (first + (2 * r + 1)) (first + (2 * r + 1) + 1) HI.out (by omega) (by omega)
        push_cast at hl
        have HL := Lib.hid hl
        clear hl
        go_wp2_with fail
        go_at_fn g
        refine HL.out.mono ?_
        rintro e w3 ⟨b3, rfl, hI3, hg3⟩
        have HI3 := Lib.hid hI3
        have HG3 := Lib.hid (grown_trans HG.out hg3)
        have HB3 := Lib.hid (HB.out.grown hg3 (by intro e; injection e with e; omega))
        clear hI3 hg3 HL c0 HI HG HB
        have HI := HI3
        have HG := HG3
        have HB := HB3
        clear HI3 HG3 HB3
        cases b3 with
        | true =>
          have c0 : w3.cell? ⟨w.heap.size, 0, none⟩ = some (.func (.func g) #[] lb) := by rw [HB.out.cell]; rfl
          have hl := HK.out.less w3 (first + r) (first + (2 * r + 1 + 1)) HI.out (by omega) (by omega)
          push_cast at hl
          have HL := Lib.hid hl
          clear hl
          go_wp2_with fail
          go_at_fn g
          refine HL.out.mono ?_
          rintro e w5 ⟨b5, rfl, hI3, hg3⟩
          have HI3 := Lib.hid hI3
          have HG3 := Lib.hid (grown_trans HG.out hg3)
          have HB3 := Lib.hid (HB.out.grown hg3 (by intro e; injection e with e; omega))
          clear hI3 hg3 HL c0 HI HG HB
          have HI := HI3
          have HG := HG3
          have HB := HB3
          clear HI3 HG3 HB3
          cases b5 with
          | true =>
            have c1 : w5.cell? ⟨w.heap.size, 1, none⟩ = some (.func (.func sf) #[] sb) := by rw [HB.out.cell]; rfl
            obtain ⟨w6, hs, hI4, hg4⟩ := HK.out.swap w5 (first + r) (first + (2 * r + 1 + 1)) HI.out (by omega) (by omega)
            push_cast at hs
            have HI4 := Lib.hid hI4
            have HG4 := Lib.hid (grown_trans HG.out hg4)
            have HB4 := Lib.hid (HB.out.grown hg4 (by intro e; injection e with e; omega))
            clear hI4 hg4
            go_wp2
            exact ⟨⟨2 * r + 1 + 1, by congr 1, by omega, HI4, HG4, HB4⟩, by simp [intOf]; omega⟩
          | false =>
            go_wp2
            go_end0
            exact ⟨rfl, HI.out, HG.out⟩
        | false =>
          have c0 : w3.cell? ⟨w.heap.size, 0, none⟩ = some (.func (.func g) #[] lb) := by rw [HB.out.cell]; rfl
          have hl := HK.out.less w3 (first + r) (first + (2 * r + 1)) HI.out (by omega) (by omega)
          push_cast at hl
          have HL := Lib.hid hl
          clear hl
          go_wp2_with fail
          go_at_fn g
          refine HL.out.mono ?_
          rintro e w5 ⟨b5, rfl, hI3, hg3⟩
          have HI3 := Lib.hid hI3
          have HG3 := Lib.hid (grown_trans HG.out hg3)
          have HB3 := Lib.hid (HB.out.grown hg3 (by intro e; injection e with e; omega))
          clear hI3 hg3 HL c0 HI HG HB
          have HI := HI3
          have HG := HG3
          have HB := HB3
          clear HI3 HG3 HB3
          cases b5 with
          | true =>
            have c1 : w5.cell? ⟨w.heap.size, 1, none⟩ = some (.func (.func sf) #[] sb) := by rw [HB.out.cell]; rfl
            obtain ⟨w6, hs, hI4, hg4⟩ := HK.out.swap w5 (first + r) (first + (2 * r + 1)) HI.out (by omega) (by omega)
            push_cast at hs
            have HI4 := Lib.hid hI4
            have HG4 := Lib.hid (grown_trans HG.out hg4)
            have HB4 := Lib.hid (HB.out.grown hg4 (by intro e; injection e with e; omega))
            clear hI4 hg4
            go_wp2
            exact ⟨⟨2 * r + 1, by congr 1, by omega, HI4, HG4, HB4⟩, by simp [intOf]; omega⟩
          | false =>
            go_wp2
            go_end0
            exact ⟨rfl, HI.out, HG.out⟩
      · have hc2' : ¬ (2 * (r : Int) + 1 + 1 < (hi : Int)) := by omega
        have c0 : wr.cell? ⟨w.heap.size, 0, none⟩ = some (.func (.func g) #[] lb) := by rw [HB.out.cell]; rfl
        have hl := HK.out.less wr (first + r) (first + (2 * r + 1)) HI.out (by omega) (by omega)
        push_cast at hl
        have HL := Lib.hid hl
        clear hl
        go_wp2_with fail
        go_at_fn g
        refine HL.out.mono ?_
        rintro e w5 ⟨b5, rfl, hI3, hg3⟩
        have HI3 := Lib.hid hI3
        have HG3 := Lib.hid (grown_trans HG.out hg3)
        have HB3 := Lib.hid (HB.out.grown hg3 (by intro e; injection e with e; omega))
        clear hI3 hg3 HL c0 HI HG HB
        have HI := HI3
        have HG := HG3
        have HB := HB3
        clear HI3 HG3 HB3
        cases b5 with
        | true =>
          have c1 : w5.cell? ⟨w.heap.size, 1, none⟩ = some (.func (.func sf) #[] sb) := by rw [HB.out.cell]; rfl
          obtain ⟨w6, hs, hI4, hg4⟩ := HK.out.swap w5 (first + r) (first + (2 * r + 1)) HI.out (by omega) (by omega)
          push_cast at hs
          have HI4 := Lib.hid hI4
          have HG4 := Lib.hid (grown_trans HG.out hg4)
          have HB4 := Lib.hid (HB.out.grown hg4 (by intro e; injection e with e; omega))
          clear hI4 hg4
          go_wp2
          exact ⟨⟨2 * r + 1, by congr 1, by omega, HI4, HG4, HB4⟩, by simp [intOf]; omega⟩
        | false =>
          go_wp2
          go_end0
          exact ⟨rfl, HI.out, HG.out⟩
    · have hch' : ¬ (2 * (r : Int) + 1 < (hi : Int)) := by omega
      have hchn : ((hi : Int) ≤ 2 * (r : Int) + 1) := by omega
      go_wp2
      go_end0
      exact ⟨rfl, HI.out, HG.out⟩
end
end Go.Proofs.Ytenneobgjalfhaa.So
