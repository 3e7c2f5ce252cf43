/- Walks of spec.wrapWords and spec.WrapOpen; the conditions are on the length alone. -/
import Derived.Test.YtakfblfepgigbaaSpecW
set_option linter.unusedVariables false
set_option linter.unusedSimpArgs false
namespace Go.Proofs.Ytakfblfepgigbaa.Wr
open Go.RowKit Go.Proofs.Ytakfblfepgigbaa.K Go.Proofs.Ytakfblfepgigbaa.Own
/-- A number goes into a block. -/
theorem wpList_putU {P : Program} {ops : Array Oper} {rest : List Oper} {o : Oper} {a : Act} {w w0 : World} {Q : Exit → Act → World → Prop} (hP : P = Try.prog) (hgd : o.guard = none) (x y : Operand) (ho : o.op = .store 34 x y)
    (g i : Nat) (hx : a.eval x = .pointer (some ⟨g, i, none⟩)) (n : Int) (hy : a.eval y = .int .u64 n) (cs : Array Value) (hb : Blk w g 34 cs) (hi : i < cs.size) (hg : w0.grownBy w (some g))
    (h : ∀ w', Blk w' g 34 (cs.setIfInBounds i (.int .u64 n)) → w0.grownBy w' (some g) → wpList P ops Q rest (a.put o.dst undef) w') : wpList P ops Q (o :: rest) a w := by
  subst hP
  refine wpList_plain hgd fun K hK => ?_
  have hf := hb.frozen i
  have hc := hb.cell i
  rw [Array.getElem?_eq_getElem hi] at hc
  have hq := h _ (hb.set_ i (.int .u64 n)) (grown_trans hg (setCell_grown w ⟨g, i, none⟩ (.int .u64 n)))
  have hk := hK _ _ hq
  clear hK hq h
  unfold Oper.wp execOp
  simp only [ho, hx, hy]
  go_simp
  exact hk

/-- Numbers as values. -/
def nums (xs : Nat → Nat) (n : Nat) : List Value := (List.range n).map fun j => .int .u64 (xs j : Nat)
theorem nums_len (xs : Nat → Nat) (n : Nat) : (nums xs n).length = n := by simp [nums]
theorem nums_at (xs : Nat → Nat) (n j : Nat) (h : j < n) : (nums xs n)[j]? = some (.int .u64 (xs j : Nat)) := by simp [nums, h]
def updN (xs : Nat → Nat) (i v j : Nat) : Nat := if j = i then v else xs j
theorem nums_set (xs : Nat → Nat) (n i v : Nat) : (nums xs n).toArray.setIfInBounds i (.int .u64 (v : Nat)) = (nums (updN xs i v) n).toArray := by
  apply Array.ext
  · simp [nums]
  · intro j h1 h2
    rw [Array.getElem_setIfInBounds (by simpa using h1)]
    by_cases e : i = j
    · subst e
      simp [nums, updN]
    · rw [if_neg e]
      have e2 : ¬ j = i := fun h => e h.symm
      simp [nums, updN, e2]
def cat (xs : Nat → Nat) (k : Nat) : List UInt8 := flat (fun j => b8 (xs j)) k
theorem cat_len (xs : Nat → Nat) (k : Nat) : (cat xs k).length = 8 * k := flat_len _ k (fun j _ => b8_length _)
theorem reads_b8l {w : World} {g x y : Nat} {t : TypeId} (h : Blk w g t (bys (b8 x ++ b8 y)).toArray) : Reads w 1 (some ⟨g, 0, none⟩) 8 (bys (b8 x)) := by
  have := (h.reads 1 16 0 (by simp [bys, b8_length])).take (k := 8) (by omega)
  have e : (((bys (b8 x ++ b8 y)).toArray.toList.drop (0 * 1)).take (16 * 1)).take (8 * 1) = bys (b8 x) := by
    simp only [Nat.zero_mul, List.drop_zero, Nat.mul_one, List.take_take]
    rw [bys_append, show min 8 16 = 8 from rfl, List.take_append_of_le_length (by simp [bys, b8_length])]
    exact List.take_of_length_le (by simp [bys, b8_length])
  rw [e] at this
  simpa using this
theorem reads_b8r {w : World} {g x y : Nat} {t : TypeId} (h : Blk w g t (bys (b8 x ++ b8 y)).toArray) : Reads w 1 (some ⟨g, 8, none⟩) 8 (bys (b8 y)) := by
  have := h.reads 1 8 8 (by simp [bys, b8_length])
  have e : ((bys (b8 x ++ b8 y)).toArray.toList.drop (8 * 1)).take (8 * 1) = bys (b8 y) := by
    rw [bys_append, Nat.mul_one]
    simp only [List.drop_append, bys_length, b8_length]
    rw [List.drop_eq_nil_of_le (by simp [bys, b8_length])]
    simp only [Nat.sub_self, List.drop_zero, List.nil_append]
    exact List.take_of_length_le (by simp [bys, b8_length])
  rw [e] at this
  simpa using this
set_option maxRecDepth 100000 in
set_option maxHeartbeats 2000000 in
theorem wrapWords_calls (w : World) (a n : Nat) (R : Option Addr) (c : Nat) (xs : Nat → Nat) (ha : a < 18446744073709551616) (hx : ∀ j, j < n → xs j < 18446744073709551616) (hr : Reads w 1 R n (nums xs n)) (hn : n ≤ 1000) :
    Calls Try.prog 30 #[.int .u64 a, .slice R n c] w fun e w' => ∃ v, e = .returned v ∧ OwnB w.heap.size w' v (b8 a ++ cat xs n) ∧ Below w.heap.size w w' := by
  obtain ⟨i0, hi, hz0, hz1, hz2⟩ := info_parts info_u8
  have HR := Lib.hid hr
  have HX := Lib.hid hx
  have hinf : ∀ l : List UInt8, l.length = 16 → (Try.prog.info? 52).map (·.size) = some (bys l).toArray.size := fun l hl => by simpa [bys, hl] using info_arr
  have HI := Lib.hid hinf
  have hbl : ∀ x y : Nat, (b8 x ++ b8 y).length = 16 := fun x y => by simp [b8_length]
  have HBL := Lib.hid hbl
  have hwb := wrapBlock_calls w a 0 ha (by decide)
  rw [show ((0 : Nat) : Int) = 0 from rfl] at hwb
  have HWB := Lib.hid hwb
  clear hr hx hinf hbl hwb
  go_enter Try.func30, Try.ntmps30
  go_wp2_with (first
    | (go_at_call 29; refine HWB.out.mono ?_; rintro e w1 ⟨rfl, hB1⟩; have HB1 := Lib.hid hB1; clear hB1 HWB)
    | (refine wpList_store_blk rfl _ _ _ rfl w1.heap.size rfl (bys (b8 a ++ b8 0)).toArray Z16 rfl 52 (Blk.new w1 52 Z16) (HI.out _ (HBL.out _ _)) (by simp [bys, b8_length, Z16]) (bys_all _) ?_; intro w2 hb2 hg2 hs2; have HB2 := Lib.hid hb2; have HG2 := Lib.hid hg2; have HS2 := Lib.hid hs2; clear hb2 hg2 hs2)
    | (at_builtin; refine wpList_append_any _ rfl _ _ 22 rfl w2.heap.size 5 i0 (.int .u8 0) 1 1 Try.underlying22 hi hz0 hz1 hz2 rfl (by decide) _ 0 [] rfl (own_empty w2 5 1) (some ⟨w1.heap.size, 0, none⟩) 8 16 (bys (b8 a)) rfl ?hr (bys_one _) (by unfold maxLen; decide) (by decide) (by simp) ?_))
  case hr => exact (reads_b8l HB2.out).below ((Below.refl w2.heap.size w2).alloc (Nat.le_refl _) _) (Nat.le_refl _)
  intro v' w3 hown hg hat
  have hs2 : w1.heap.size + 1 ≤ w2.heap.size := by have := HS2.out; simp at this; omega
  have hB2 : Below w.heap.size w w2 := (below_alloc' HB1.out _).trans (below_of_grown HG2.out HB1.out.size (by have := HB1.out.size; simp; omega))
  have hB3 : Below w.heap.size w w3 := (below_alloc' hB2 _).grown hg (by have := hB2.size; simp; omega) (by
    intro q hq
    have : w2.heap.size = q := by simpa [Value.ownBlock] using hq
    have := hB2.size
    omega)
  have HO3 := Lib.hid (own_base hown hB2.size)
  have HB3 := Lib.hid hB3
  obtain ⟨A6, c6, hv6, _, _⟩ := own_form hown
  have hfst : bys (b8 a) = bys (b8 a ++ cat xs 0) := by simp [cat, flat]
  rw [hfst] at HO3
  have HFL : Hid (w3.ownsRow w.heap.size 5 1 v' (8 * 0 + 8) (bys (b8 a ++ cat xs 0))) := HO3
  clear hown hg hat hs2 hB2 hB3 hfst HB2 HG2 HS2 HB1 HO3
  subst hv6
  go_wp2
  go_loopw [6, 17] (fun v i wr => ∃ k : Nat, k ≤ n ∧ i = .int .i64 k ∧ (∃ A c, v = .slice A (8 * k + 8) c) ∧ Hid (wr.ownsRow w.heap.size 5 1 v (8 * k + 8) (bys (b8 a ++ cat xs k))) ∧ Hid (Below w.heap.size w wr)) (fun v i _ => n - (intOf i).toNat)
  case atStart => exact ⟨0, Nat.zero_le _, rfl, ⟨_, _, rfl⟩, HFL, HB3⟩
  case round =>
    clear HFL HB3
    obtain ⟨k, hk, rfl, ⟨A7, c7, rfl⟩, HO, HB⟩ := hrel
    by_cases hlt : k < n
    · obtain ⟨ad, u, hR, hu, hc⟩ := (HR.out.below HB.out (Nat.le_refl _)).at_ hlt
      rw [nums_at xs n k hlt] at hu
      obtain rfl := Option.some.inj hu
      subst hR
      have hxk := HX.out k hlt
      have hwb := wrapBlock_calls wr 0 (xs k) (by decide) hxk
      rw [show ((0 : Nat) : Int) = 0 from rfl] at hwb
      have HWB := Lib.hid hwb
      obtain ⟨y, hy⟩ : ∃ y, y = xs k := ⟨_, rfl⟩
      rw [← hy] at HWB hc
      have HY := Lib.hid hy
      clear hu hxk hwb hy
      go_wp2_with (first
        | (go_at_call 29; refine HWB.out.mono ?_; rintro e w1 ⟨rfl, hB1⟩; have HB1 := Lib.hid hB1; clear hB1 HWB)
        | (refine wpList_store_blk rfl _ _ _ rfl w1.heap.size rfl (bys (b8 0 ++ b8 y)).toArray Z16 rfl 52 (Blk.new w1 52 Z16) (HI.out _ (HBL.out _ _)) (by simp [bys, b8_length, Z16]) (bys_all _) ?_; intro w2 hb2 hg2 hs2; have HB2 := Lib.hid hb2; have HBB2 : Hid (Below wr.heap.size wr w2) := Lib.hid ((below_alloc' HB1.out _).trans (below_of_grown hg2 HB1.out.size (by have := HB1.out.size; simp; omega))); clear hb2 hg2 hs2)
        | (at_builtin; refine wpList_append_any _ rfl _ _ 22 rfl w.heap.size 5 i0 (.int .u8 0) 1 1 Try.underlying22 hi hz0 hz1 hz2 rfl (by decide) _ (8 * k + 8) (bys (b8 a ++ cat xs k)) rfl (own_below HO.out HBB2.out) (some ⟨w1.heap.size, 8, none⟩) 8 8 (bys (b8 y)) rfl (reads_b8r HB2.out) (bys_one _) (by unfold maxLen; omega) (by omega) (by have := HB.out.size; have := HBB2.out.size; omega) ?_; intro v9 w9 ho9 hg9 hat9; have HBB9 : Hid (Below w.heap.size w w9) := Lib.hid ((below_then HB.out HBB2.out).grown hg9 (below_then HB.out HBB2.out).size (fun q hq => own_block_ge HO.out q hq)); obtain ⟨A9, c9, hv9, _, _⟩ := own_form ho9; have HO9 := Lib.hid ho9; clear ho9 hg9 hat9; subst hv9))
      go_roundw
      case rel =>
        refine ⟨k + 1, by omega, by go_num, ⟨A9, c9, by rw [show 8 * (k + 1) + 8 = 8 * k + 8 + 8 by omega]⟩, ?_, HBB9⟩
        show World.ownsRow _ _ _ _ _ _ _
        have ho := HO9.out
        rw [show bys (b8 a ++ cat xs k) ++ bys (b8 y) = bys (b8 a ++ cat xs (k + 1)) by rw [← bys_append, List.append_assoc, HY.out]; rfl] at ho
        rw [show 8 * (k + 1) + 8 = 8 * k + 8 + 8 by omega]
        exact ho
      case measure => simp [intOf]; omega
    · obtain rfl : n = k := by omega
      clear hlt hk
      go_wp2
      go_ret
      exact ⟨_, rfl, OwnB.mk HO.out, HB.out⟩
end Go.Proofs.Ytakfblfepgigbaa.Wr
