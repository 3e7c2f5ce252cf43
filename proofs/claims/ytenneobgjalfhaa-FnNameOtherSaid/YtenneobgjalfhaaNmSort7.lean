/- partitionEqual_func over an invariant. The conditions: sizes below 2^40. -/
import Derived.Test.YtenneobgjalfhaaNmSort2
import Derived.Test.YtenneobgjalfhaaProg
import Derived.Great.Walk
import Derived.RegionTactic
import Derived.StillTailTactics
import Derived.Deep.Cut
import Derived.Deep.CutBlock
import Derived.Deep.RegionHeld3
set_option linter.unusedVariables false
set_option linter.unusedSimpArgs false
namespace Go.Proofs.Ytenneobgjalfhaa.So
open Go.RowKit Go.Proofs.Ytenneobgjalfhaa.K
section
variable {g sf : Nat} {lb sb : Array Value} {Inv : World → Prop} {blk B n : Nat}
set_option maxRecDepth 100000 in
set_option maxHeartbeats 4000000 in
theorem partitionEqual_calls (hK : Keeps g sf lb sb Inv blk B n) (w : World) (hI : Inv w) (a b p : Nat) (hab : a < b) (hb : b ≤ n) (hp : p < n) :
    Calls Try.prog 80 #[.agg #[.func (.func g) #[] lb, .func (.func sf) #[] sb], .int .i64 a, .int .i64 b, .int .i64 p] w fun e w' => ∃ m : Nat, a < m ∧ m ≤ b ∧ e = .returned (.int .i64 m) ∧ Inv w' ∧ w.grownBy w' (some blk) := by
  have eg := hK.enters
  have hn := hK.most
  have hblk : blk < w.heap.size := Nat.lt_of_lt_of_le hK.row (hK.size w hI)
  have HK := Lib.hid hK
  have hb0 := Blk.new w 98 #[.func (.func g) #[] lb, .func (.func sf) #[] sb]
  have hg0 := World.grownBy_alloc w (.cells #[.func (.func g) #[] lb, .func (.func sf) #[] sb] 98) (some blk)
  have HI0 := Lib.hid (hK.grow _ _ none hI (World.grownBy_alloc w (.cells #[.func (.func g) #[] lb, .func (.func sf) #[] sb] 98) none) (by intro j hj; cases hj))
  have HB0 := Lib.hid hb0
  have HG0 := Lib.hid hg0
  clear hK hb0 hg0 hI
  obtain ⟨W0, hW0⟩ : ∃ W0, W0 = w.alloc (.cells #[.func (.func g) #[] lb, .func (.func sf) #[] sb] 98) := ⟨_, rfl⟩
  rw [← hW0] at HI0 HG0 HB0
  have c10 : W0.cell? ⟨w.heap.size, 1, none⟩ = some (.func (.func sf) #[] sb) := by rw [HB0.out.cell]; rfl
  obtain ⟨w1, hs0, hI0, hg0⟩ := HK.out.swap W0 (a) (p) HI0.out (by omega) (by omega)
  have HIs := Lib.hid hI0
  have HGs := Lib.hid (grown_trans HG0.out hg0)
  have HBs := Lib.hid (HB0.out.grown hg0 (by intro e; injection e with e; omega))
  clear hI0 hg0
  rw [hW0] at c10 hs0
  clear HI0 HG0 HB0 hW0
  go_enter Try.func80, Try.ntmps80
  go_wp2
  go_loopw [9, 10] (fun vi vj wr => ∃ (i z : Nat), vi = .int .i64 i ∧ vj = .int .i64 z ∧ a + 1 ≤ i ∧ i ≤ b ∧ a ≤ z ∧ z + 1 ≤ b ∧ Hid (Inv wr) ∧ Hid (w.grownBy wr (some blk)) ∧ Hid (Blk wr w.heap.size 98 #[.func (.func g) #[] lb, .func (.func sf) #[] sb])) (fun vi vj _ => b - (intOf vi).toNat)
  case atStart => exact ⟨a + 1, b - 1, by go_num, by congr 1 <;> omega, by omega, by omega, by omega, by omega, HIs, HGs, HBs⟩
  case round =>
    clear HIs HGs HBs hs0 c10
    obtain ⟨i0, z0, rfl, rfl, hi1, hi2, hz1, hz2, HI, HG, HB⟩ := hrel
    go_wp2
    go_loopw [9] (fun vi wr => ∃ i : Nat, vi = .int .i64 i ∧ i0 ≤ i ∧ i ≤ b ∧ Hid (Inv wr) ∧ Hid (w.grownBy wr (some blk)) ∧ Hid (Blk wr w.heap.size 98 #[.func (.func g) #[] lb, .func (.func sf) #[] sb])) (fun vi _ => b - (intOf vi).toNat)
    case atStart => exact ⟨i0, rfl, Nat.le_refl _, hi2, HI, HG, HB⟩
    case round =>
      clear HI HG HB
      obtain ⟨i, rfl, hii, hib, HI, HG, HB⟩ := hrel
      by_cases hle : i ≤ z0
      · have hli0 : (i : Int) ≤ z0 := by omega
        have c0 : wr.cell? ⟨w.heap.size, 0, none⟩ = some (.func (.func g) #[] lb) := by rw [HB.out.cell]; rfl
        have hl := HK.out.less wr (a) (i) HI.out (by omega) (by omega)
        have HL := Lib.hid hl
        clear hl
        go_wp2_with fail
        go_at_fn g
        refine HL.out.mono ?_
        rintro e w3 ⟨bv, rfl, hI3, hg3⟩
        have HI3 := Lib.hid hI3
        have HG3 := Lib.hid (grown_trans HG.out hg3)
        have HB3 := Lib.hid (HB.out.grown hg3 (by intro e; injection e with e; omega))
        clear hI3 hg3 HL c0
        cases bv with
        | true =>
          go_wp2
          go_loopw [10] (fun vj wr => ∃ z : Nat, vj = .int .i64 z ∧ z ≤ z0 ∧ a ≤ z ∧ Hid (Inv wr) ∧ Hid (w.grownBy wr (some blk)) ∧ Hid (Blk wr w.heap.size 98 #[.func (.func g) #[] lb, .func (.func sf) #[] sb])) (fun vj _ => (intOf vj).toNat)
          case atStart => exact ⟨z0, rfl, Nat.le_refl _, hz1, HI3, HG3, HB3⟩
          case round =>
            clear HI3 HG3 HB3
            obtain ⟨z, rfl, hzz, hza, HI, HG, HB⟩ := hrel
            by_cases hle2 : i ≤ z
            · have hli : (i : Int) ≤ z := by omega
              have c0 : wr.cell? ⟨w.heap.size, 0, none⟩ = some (.func (.func g) #[] lb) := by rw [HB.out.cell]; rfl
              have hl := HK.out.less wr (a) (z) HI.out (by omega) (by omega)
              have HL := Lib.hid hl
              clear hl
              go_wp2_with fail
              go_at_fn g
              refine HL.out.mono ?_
              rintro e w3 ⟨bv, rfl, hI3, hg3⟩
              have HI3 := Lib.hid hI3
              have HG3 := Lib.hid (grown_trans HG.out hg3)
              have HB3 := Lib.hid (HB.out.grown hg3 (by intro e; injection e with e; omega))
              clear hI3 hg3 HL c0
              cases bv with
              | true =>
                go_wp2
                exact ⟨⟨z - 1, by congr 1 <;> omega, by omega, by omega, HI3, HG3, HB3⟩, by simp [intOf]; omega⟩
              | false =>
                have c1 : w3.cell? ⟨w.heap.size, 1, none⟩ = some (.func (.func sf) #[] sb) := by rw [HB3.out.cell]; rfl
                obtain ⟨w4, hs, hI, hg⟩ := HK.out.swap w3 (i) (z) HI3.out (by omega) (by omega)
                have HIs := Lib.hid hI
                have HGs := Lib.hid (grown_trans HG3.out hg)
                have HBs := Lib.hid (HB3.out.grown hg (by intro e; injection e with e; omega))
                clear hI hg
                go_wp2
                exact ⟨⟨i + 1, z - 1, by go_num, by congr 1 <;> omega, by omega, by omega, by omega, by omega, HIs, HGs, HBs⟩, by simp [intOf]; omega⟩
            · have hli : ¬ (i : Int) ≤ z := by omega
              have hlt2 : (z : Int) < i := by omega
              go_wp2
              go_ret
              exact ⟨i, by omega, by omega, rfl, HI.out, HG.out⟩
        | false =>
          go_wp2
          exact ⟨⟨i + 1, by go_num, by omega, by omega, HI3, HG3, HB3⟩, by simp [intOf]; omega⟩
      · have hli0 : ¬ (i : Int) ≤ z0 := by omega
        go_wp2
        go_loopw [10] (fun vj wr => ∃ z : Nat, vj = .int .i64 z ∧ z ≤ z0 ∧ a ≤ z ∧ Hid (Inv wr) ∧ Hid (w.grownBy wr (some blk)) ∧ Hid (Blk wr w.heap.size 98 #[.func (.func g) #[] lb, .func (.func sf) #[] sb])) (fun vj _ => (intOf vj).toNat)
        case atStart => exact ⟨z0, rfl, Nat.le_refl _, hz1, HI, HG, HB⟩
        case round =>
          clear HI HG HB
          obtain ⟨z, rfl, hzz, hza, HI, HG, HB⟩ := hrel
          have hli : ¬ (i : Int) ≤ z := by omega
          have hlt2 : (z : Int) < i := by omega
          go_wp2
          go_ret
          exact ⟨i, by omega, by omega, rfl, HI.out, HG.out⟩
end
end Go.Proofs.Ytenneobgjalfhaa.So
