/- choosePivot_func over an invariant. The conditions: sizes below 2^40. -/
import Derived.Test.YtenneobgjalfhaaNmSort4
import Derived.Test.YtenneobgjalfhaaProg
import Derived.Great.Walk
import Derived.RegionTactic
import Derived.StillTailTactics
import Derived.Deep.Cut
import Derived.Deep.CutBlock
import Derived.Deep.RegionHeld3
set_option linter.unusedVariables false
set_option linter.unusedSimpArgs false
namespace Go.Proofs.Ytenneobgjalfhaa.So
open Go.RowKit Go.Proofs.Ytenneobgjalfhaa.K
section
variable {g sf : Nat} {lb sb : Array Value} {Inv : World → Prop} {blk B n : Nat}
set_option maxRecDepth 100000 in
set_option maxHeartbeats 2000000 in
theorem choosePivot_calls (hK : Keeps g sf lb sb Inv blk B n) (w : World) (hI : Inv w) (a b : Nat) (hab : a + 8 ≤ b) (hb : b ≤ n) (h50 : n < 50) :
    Calls Try.prog 77 #[.agg #[.func (.func g) #[] lb, .func (.func sf) #[] sb], .int .i64 a, .int .i64 b] w fun e w' => ∃ (p : Nat) (h : Int), (a ≤ p ∧ p < b) ∧ e = .returned (.tuple #[.int .i64 p, .int .i64 h]) ∧ Inv w' ∧ (∀ j T cs, Blk w j T cs → j ≠ blk → Blk w' j T cs) ∧ w.heap.size ≤ w'.heap.size := by
  have eg := hK.enters
  have hn := hK.most
  have hblk : blk < w.heap.size := Nat.lt_of_lt_of_le hK.row (hK.size w hI)
  have HK := Lib.hid hK
  have hb0 := Blk.new w 98 #[.func (.func g) #[] lb, .func (.func sf) #[] sb]
  have hg0 := World.grownBy_alloc w (.cells #[.func (.func g) #[] lb, .func (.func sf) #[] sb] 98) (some blk)
  have HI0 := Lib.hid (hK.grow _ _ none hI (World.grownBy_alloc w (.cells #[.func (.func g) #[] lb, .func (.func sf) #[] sb] 98) none) (by intro j hj; cases hj))
  have HB0 := Lib.hid hb0
  have HG0 := Lib.hid hg0
  clear hK hb0 hg0 hI
  obtain ⟨q, hq⟩ := Int.eq_ofNat_of_zero_le (show 0 ≤ ((b : Int) - a).tdiv 4 by rw [Int.tdiv_eq_ediv_of_nonneg (by omega)]; omega)
  have hq1 : 4 * q ≤ b - a := by rw [Int.tdiv_eq_ediv_of_nonneg (by omega)] at hq; omega
  have hq2 : 2 ≤ q := by rw [Int.tdiv_eq_ediv_of_nonneg (by omega)] at hq; omega
  have h8 : (8 : Int) ≤ (b : Int) - a := by omega
  have h5 : ¬ (50 : Int) ≤ (b : Int) - a := by omega
  go_enter Try.func77, Try.ntmps77
  go_wp2_with fail
  have hg1 := World.grownBy_alloc (w.alloc (.cells #[.func (.func g) #[] lb, .func (.func sf) #[] sb] 98)) (.cells #[.int .i64 0] 3) none
  have hsz0 : (w.alloc (.cells #[.func (.func g) #[] lb, .func (.func sf) #[] sb] 98)).heap.size = w.heap.size + 1 := by simp
  have hc0 := Blk.new (w.alloc (.cells #[.func (.func g) #[] lb, .func (.func sf) #[] sb] 98)) 3 #[.int .i64 0]
  rw [hsz0] at hc0
  have hBw := HK.out.size _ HI0.out
  rw [hsz0] at hBw
  have hl := median_calls HK.out _ (HK.out.grow _ _ none HI0.out hg1 (by intro j hj; cases hj)) (a + q) (a + q * 2) (a + q * 3) (w.heap.size + 1) a b 0 hb ⟨by omega, by omega⟩ ⟨by omega, by omega⟩ ⟨by omega, by omega⟩ ⟨hBw, hc0, by omega⟩ (by omega)
  push_cast at hl
  refine hl.mono ?_
  rintro e w3 ⟨v, rfl, ⟨m, hm, rfl⟩, hI3, ⟨y, hc3, hy⟩, hfr, hsz⟩
  have hcy : w3.cell? ⟨w.heap.size + 1, 0, none⟩ = some (.int .i64 y) := by rw [hc3.cell.cell]; rfl
  have HI3 := Lib.hid hI3
  have HF := Lib.hid (show ∀ j T cs, Blk w j T cs → j ≠ blk → Blk w3 j T cs from fun j T cs hj h1 => hfr j T cs ((hj.alloc _).alloc _) h1 (by have := hj.lt; omega))
  have HZ := Lib.hid (show w.heap.size ≤ w3.heap.size from Nat.le_trans (by simp; omega) hsz)
  clear hl hfr hsz hI3 hc3 hc0 hg1 hsz0 hBw
  by_cases y0 : y = 0
  · subst y0
    go_wp2
    exact bodyPost_ret (v := .tuple #[.int .i64 m, .int .i64 1]) (by kernel_rfl) rfl ⟨m, 1, hm, rfl, HI3.out, HF.out, HZ.out⟩
  by_cases y12 : y = 12
  · subst y12
    go_wp2
    exact bodyPost_ret (v := .tuple #[.int .i64 m, .int .i64 2]) (by kernel_rfl) rfl ⟨m, 2, hm, rfl, HI3.out, HF.out, HZ.out⟩
  · have k0 : (y == 0) = false := by simpa using y0
    have k12 : (y == 12) = false := by simpa using y12
    go_wp2
    exact bodyPost_ret (v := .tuple #[.int .i64 m, .int .i64 0]) (by kernel_rfl) rfl ⟨m, 0, hm, rfl, HI3.out, HF.out, HZ.out⟩
end
end Go.Proofs.Ytenneobgjalfhaa.So
