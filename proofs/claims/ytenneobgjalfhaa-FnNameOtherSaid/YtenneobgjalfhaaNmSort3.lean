/- order2_func, median_func over an invariant. The conditions: sizes below 2^40. -/
import Derived.Test.YtenneobgjalfhaaNmSort2
import Derived.Test.YtenneobgjalfhaaProg
import Derived.Great.Walk
import Derived.RegionTactic
import Derived.StillTailTactics
import Derived.Deep.Cut
import Derived.Deep.CutBlock
import Derived.Deep.RegionHeld3
set_option linter.unusedVariables false
set_option linter.unusedSimpArgs false
namespace Go.Proofs.Ytenneobgjalfhaa.So
open Go.RowKit Go.Proofs.Ytenneobgjalfhaa.K
section
variable {g sf : Nat} {lb sb : Array Value} {Inv : World → Prop} {blk B n : Nat}
/-- The counter of swaps: a cell of its own. -/
structure Cnt (W : World) (B c : Nat) (x : Int) : Prop where
  new : B ≤ c
  cell : Blk W c 3 #[.int .i64 x]
  lo : 0 ≤ x
def OPost (Inv : World → Prop) (blk B c : Nat) (x : Int) (k : Int) (ok : Value → Prop) (W : World) (e : Ending) (W' : World) : Prop := ∃ v, e = .returned v ∧ ok v ∧ Inv W' ∧ (∃ y, Cnt W' B c y ∧ y ≤ x + k) ∧ (∀ j T cs, Blk W j T cs → j ≠ blk → j ≠ c → Blk W' j T cs) ∧ W.heap.size ≤ W'.heap.size
set_option maxRecDepth 100000 in
set_option maxHeartbeats 2000000 in
theorem order2_calls (hK : Keeps g sf lb sb Inv blk B n) (w : World) (hI : Inv w) (a b c : Nat) (x : Int) (ha : a < n) (hb : b < n) (hc : Cnt w B c x) (hx : x < 1000) :
    Calls Try.prog 90 #[.agg #[.func (.func g) #[] lb, .func (.func sf) #[] sb], .int .i64 a, .int .i64 b, .pointer (some ⟨c, 0, none⟩)] w (OPost Inv blk B c x 1 (fun v => v = .tuple #[.int .i64 a, .int .i64 b] ∨ v = .tuple #[.int .i64 b, .int .i64 a]) w) := by
  have hcw : c < w.heap.size := hc.cell.lt
  have hcb : c ≠ blk := by have := hK.row; have := hc.new; omega
  have HC0 := Lib.hid (hc.cell.alloc (.cells #[.func (.func g) #[] lb, .func (.func sf) #[] sb] 98))
  have HCN := Lib.hid hc
  clear hc
  have eg := hK.enters
  have hn := hK.most
  have hblk : blk < w.heap.size := Nat.lt_of_lt_of_le hK.row (hK.size w hI)
  have HK := Lib.hid hK
  have hb0 := Blk.new w 98 #[.func (.func g) #[] lb, .func (.func sf) #[] sb]
  have hg0 := World.grownBy_alloc w (.cells #[.func (.func g) #[] lb, .func (.func sf) #[] sb] 98) (some blk)
  have HI0 := Lib.hid (hK.grow _ _ none hI (World.grownBy_alloc w (.cells #[.func (.func g) #[] lb, .func (.func sf) #[] sb] 98) none) (by intro j hj; cases hj))
  have HB0 := Lib.hid hb0
  have HG0 := Lib.hid hg0
  clear hK hb0 hg0 hI
  have c0 : (w.alloc (.cells #[.func (.func g) #[] lb, .func (.func sf) #[] sb] 98)).cell? ⟨w.heap.size, 0, none⟩ = some (.func (.func g) #[] lb) := by rw [HB0.out.cell]; rfl
  have HL := Lib.hid (HK.out.less _ b a HI0.out hb ha)
  go_enter Try.func90, Try.ntmps90
  go_wp2_with fail
  go_at_fn g
  refine HL.out.mono ?_
  rintro e w3 ⟨bv, rfl, hI3, hg3⟩
  have HI3 := Lib.hid hI3
  have HG3 := Lib.hid (grown_trans HG0.out hg3)
  have HC3 := Lib.hid (HC0.out.grown hg3 (by intro e; injection e with e; exact hcb e))
  clear HL hI3 hg3 c0
  cases bv with
  | true =>
    have c1 : w3.cell? ⟨c, 0, none⟩ = some (.int .i64 x) := by rw [HC3.out.cell]; rfl
    have f1 : w3.frozen? ⟨c, 0, none⟩ = false := HC3.out.frozen 0
    have hx0 := HCN.out.lo
    go_wp2
    refine bodyPost_ret (v := .tuple #[.int .i64 b, .int .i64 a]) (by kernel_rfl) rfl ⟨_, rfl, Or.inr rfl, HK.out.grow _ _ (some c) HI3.out (setCell_grown w3 ⟨c, 0, none⟩ _) (by intro j hj; cases hj; exact HCN.out.new), ⟨x + 1, ⟨HCN.out.new, HC3.out.set_ 0 _, by omega⟩, by omega⟩, fun j T cs hj h1 h2 => ?_, ?_⟩
    · exact (hj.grown HG3.out (by intro e; injection e with e; exact h1 e)).far h2 _
    · have := HG3.out.size
      simpa [World.setCell] using this
  | false =>
    have hx0 := HCN.out.lo
    go_wp2
    exact bodyPost_ret (v := .tuple #[.int .i64 a, .int .i64 b]) (by kernel_rfl) rfl ⟨_, rfl, Or.inl rfl, HI3.out, ⟨x, ⟨HCN.out.new, HC3.out, hx0⟩, by omega⟩, fun j T cs hj h1 h2 => hj.grown HG3.out (by intro e; injection e with e; exact h1 e), HG3.out.size⟩
end
end Go.Proofs.Ytenneobgjalfhaa.So
