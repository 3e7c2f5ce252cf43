/- median_func over an invariant. The conditions: sizes below 2^40. -/
import Derived.Test.YtenneobgjalfhaaNmSort3
import Derived.Test.YtenneobgjalfhaaProg
import Derived.Great.Walk
import Derived.RegionTactic
import Derived.StillTailTactics
import Derived.Deep.Cut
import Derived.Deep.CutBlock
import Derived.Deep.RegionHeld3
set_option linter.unusedVariables false
set_option linter.unusedSimpArgs false
namespace Go.Proofs.Ytenneobgjalfhaa.So
open Go.RowKit Go.Proofs.Ytenneobgjalfhaa.K
section
variable {g sf : Nat} {lb sb : Array Value} {Inv : World → Prop} {blk B n : Nat}
set_option maxRecDepth 100000 in
set_option maxHeartbeats 2000000 in
theorem median_calls (hK : Keeps g sf lb sb Inv blk B n) (w : World) (hI : Inv w) (a b d c lo hi : Nat) (x0 : Int) (hh : hi ≤ n) (ha : lo ≤ a ∧ a < hi) (hb : lo ≤ b ∧ b < hi) (hd : lo ≤ d ∧ d < hi) (hc : Cnt w B c x0) (hx : x0 < 900) :
    Calls Try.prog 89 #[.agg #[.func (.func g) #[] lb, .func (.func sf) #[] sb], .int .i64 a, .int .i64 b, .int .i64 d, .pointer (some ⟨c, 0, none⟩)] w (OPost Inv blk B c x0 3 (fun v => ∃ m : Nat, (lo ≤ m ∧ m < hi) ∧ v = .int .i64 m) w) := by
  have hcw : c < w.heap.size := hc.cell.lt
  have HCk0 := Lib.hid (show Cnt (w.alloc (.cells #[.func (.func g) #[] lb, .func (.func sf) #[] sb] 98)) B c x0 from ⟨hc.new, hc.cell.alloc _, hc.lo⟩)
  clear hc
  have eg := hK.enters
  have hn := hK.most
  have hblk : blk < w.heap.size := Nat.lt_of_lt_of_le hK.row (hK.size w hI)
  have HK := Lib.hid hK
  have hb0 := Blk.new w 98 #[.func (.func g) #[] lb, .func (.func sf) #[] sb]
  have hg0 := World.grownBy_alloc w (.cells #[.func (.func g) #[] lb, .func (.func sf) #[] sb] 98) (some blk)
  have HI0 := Lib.hid (hK.grow _ _ none hI (World.grownBy_alloc w (.cells #[.func (.func g) #[] lb, .func (.func sf) #[] sb] 98) none) (by intro j hj; cases hj))
  have HB0 := Lib.hid hb0
  have HG0 := Lib.hid hg0
  clear hK hb0 hg0 hI
  obtain ⟨W0, hW0⟩ : ∃ W0, W0 = w.alloc (.cells #[.func (.func g) #[] lb, .func (.func sf) #[] sb] 98) := ⟨_, rfl⟩
  have HFr0 := Lib.hid (show ∀ k T cs, Blk w k T cs → k ≠ blk → k ≠ c → Blk W0 k T cs from fun k T cs hk _ _ => by rw [hW0]; exact hk.alloc _)
  have HSz0 := Lib.hid (show w.heap.size ≤ W0.heap.size by rw [hW0]; simp)
  rw [← hW0] at HCk0 HI0 HB0
  have HIk0 := HI0
  have HBk0 := HB0
  clear HI0 HB0 HG0
  have d0_0 : W0.cell? ⟨w.heap.size, 0, none⟩ = some (.func (.func g) #[] lb) := by rw [HBk0.out.cell]; rfl
  have d1_0 : W0.cell? ⟨w.heap.size, 1, none⟩ = some (.func (.func sf) #[] sb) := by rw [HBk0.out.cell]; rfl
  have HL0 := Lib.hid (order2_calls HK.out W0 HIk0.out a b c x0 (by omega) (by omega) HCk0.out (by omega))
  have HW := Lib.hid hW0
  rw [hW0] at d0_0 d1_0
  go_enter Try.func89, Try.ntmps89
  go_wp2_with fail
  rw [← hW0]
  clear hW0
  refine HL0.out.mono ?_
  rintro e w1 ⟨v, rfl, hv, hI1, ⟨x1, hc1, hx1⟩, hfr, hsz⟩
  obtain ⟨a1, b1, ha1, hb1, rfl⟩ : ∃ p q : Nat, (lo ≤ p ∧ p < hi) ∧ (lo ≤ q ∧ q < hi) ∧ v = .tuple #[.int .i64 p, .int .i64 q] := by
    rcases hv with rfl | rfl
    · exact ⟨_, _, by omega, by omega, rfl⟩
    · exact ⟨_, _, by omega, by omega, rfl⟩
  have HIk1 := Lib.hid hI1
  have HCk1 := Lib.hid hc1
  have HBk1 := Lib.hid (hfr _ _ _ HBk0.out (by omega) (by omega))
  have HFr1 := Lib.hid (fun k T cs (hk : Blk w k T cs) (h1 : k ≠ blk) (h2 : k ≠ c) => hfr k T cs (HFr0.out k T cs hk h1 h2) h1 h2)
  have HSz1 := Lib.hid (Nat.le_trans HSz0.out hsz)
  clear hv hI1 hc1 hfr hsz HL0 d0_0 d1_0
  have d0_1 : w1.cell? ⟨w.heap.size, 0, none⟩ = some (.func (.func g) #[] lb) := by rw [HBk1.out.cell]; rfl
  have d1_1 : w1.cell? ⟨w.heap.size, 1, none⟩ = some (.func (.func sf) #[] sb) := by rw [HBk1.out.cell]; rfl
  have HL1 := Lib.hid (order2_calls HK.out w1 HIk1.out b1 d c x1 (by omega) (by omega) HCk1.out (by omega))
  go_wp2_with fail
  refine HL1.out.mono ?_
  rintro e w2 ⟨v, rfl, hv, hI2, ⟨x2, hc2, hx2⟩, hfr, hsz⟩
  obtain ⟨b2, d2, hb2, hd2, rfl⟩ : ∃ p q : Nat, (lo ≤ p ∧ p < hi) ∧ (lo ≤ q ∧ q < hi) ∧ v = .tuple #[.int .i64 p, .int .i64 q] := by
    rcases hv with rfl | rfl
    · exact ⟨_, _, by omega, by omega, rfl⟩
    · exact ⟨_, _, by omega, by omega, rfl⟩
  have HIk2 := Lib.hid hI2
  have HCk2 := Lib.hid hc2
  have HBk2 := Lib.hid (hfr _ _ _ HBk1.out (by omega) (by omega))
  have HFr2 := Lib.hid (fun k T cs (hk : Blk w k T cs) (h1 : k ≠ blk) (h2 : k ≠ c) => hfr k T cs (HFr1.out k T cs hk h1 h2) h1 h2)
  have HSz2 := Lib.hid (Nat.le_trans HSz1.out hsz)
  clear hv hI2 hc2 hfr hsz HL1 d0_1 d1_1
  have d0_2 : w2.cell? ⟨w.heap.size, 0, none⟩ = some (.func (.func g) #[] lb) := by rw [HBk2.out.cell]; rfl
  have d1_2 : w2.cell? ⟨w.heap.size, 1, none⟩ = some (.func (.func sf) #[] sb) := by rw [HBk2.out.cell]; rfl
  have HL2 := Lib.hid (order2_calls HK.out w2 HIk2.out a1 b2 c x2 (by omega) (by omega) HCk2.out (by omega))
  go_wp2_with fail
  refine HL2.out.mono ?_
  rintro e w3 ⟨v, rfl, hv, hI3, ⟨x3, hc3, hx3⟩, hfr, hsz⟩
  obtain ⟨a3, b3, ha3, hb3, rfl⟩ : ∃ p q : Nat, (lo ≤ p ∧ p < hi) ∧ (lo ≤ q ∧ q < hi) ∧ v = .tuple #[.int .i64 p, .int .i64 q] := by
    rcases hv with rfl | rfl
    · exact ⟨_, _, by omega, by omega, rfl⟩
    · exact ⟨_, _, by omega, by omega, rfl⟩
  have HIk3 := Lib.hid hI3
  have HCk3 := Lib.hid hc3
  have HBk3 := Lib.hid (hfr _ _ _ HBk2.out (by omega) (by omega))
  have HFr3 := Lib.hid (fun k T cs (hk : Blk w k T cs) (h1 : k ≠ blk) (h2 : k ≠ c) => hfr k T cs (HFr2.out k T cs hk h1 h2) h1 h2)
  have HSz3 := Lib.hid (Nat.le_trans HSz2.out hsz)
  clear hv hI3 hc3 hfr hsz HL2 d0_2 d1_2
  go_wp2
  go_ret
  exact ⟨_, rfl, ⟨b3, hb3, rfl⟩, HIk3.out, ⟨x3, HCk3.out, by omega⟩, HFr3.out, HSz3.out⟩
end
end Go.Proofs.Ytenneobgjalfhaa.So
