/- Plain words on memory that the walks of this seat use: a slice that reads as a list; no condition. -/
import Derived.WalkKit
import Derived.Maps.AppendAt
import Derived.Deep.AppendLies
import Derived.Deep.Draws
import Derived.Lib.Hide
import Derived.KernelRfl
import Derived.WalkSpells
import Derived.Laws.IdiomStrings
import Derived.Laws.CopyOwn
import Derived.Lib.BufferRead
import Derived.Lib.SliceRun
import Derived.BigQuiet
import Derived.Deep.QuietTactic
import Derived.WalkLawsBesides
set_option linter.unusedVariables false
set_option linter.unusedSimpArgs false
namespace Go.Proofs.YtapjbdigpleekaaGreat.K
open Go.RowKit

theorem block_of_add (a : Addr) (n : Nat) : (a.add n).block = a.block := by unfold Addr.add; split <;> rfl
theorem add_of_add (a : Addr) (i j : Nat) : (a.add i).add j = a.add (i + j) := by
  unfold Addr.add
  by_cases hi : i = 0 <;> by_cases hj : j = 0 <;> simp [hi, hj, Nat.add_assoc]
theorem add_plain (g j : Nat) : (⟨g, 0, none⟩ : Addr).add j = ⟨g, j, none⟩ := by unfold Addr.add; split <;> simp_all
theorem add_at (g o j : Nat) : (⟨g, o, none⟩ : Addr).add j = ⟨g, o + j, none⟩ := by unfold Addr.add; split <;> simp_all
theorem cell_next {w : World} {a : Addr} {i j : Nat} {u : Value} (h : w.cell? (a.add (i + (j + 1))) = some u) : w.cell? ⟨(a.add i).block, (a.add i).off + (j + 1), none⟩ = some u := by
  rw [← add_of_add] at h
  exact h
theorem below_drewN {B : Nat} {a w : World} (h : Below B a w) (n : Nat) : Below B a (w.drewN n) := ⟨h.os, h.tape, h.output, h.size, h.block⟩

theorem ret_bool {a b : Bool} (h : a = b) : Ending.returned (.bool a) = .returned (.bool b) := by rw [h]
theorem ret_int {k : IntKind} {a b : Int} (h : a = b) : Ending.returned (.int k a) = .returned (.int k b) := by rw [h]
theorem ret_int_bool {k : IntKind} {a b : Int} {x y : Bool} (h : a = b) (h' : x = y) : Ending.returned (.tuple #[.int k a, .bool x]) = .returned (.tuple #[.int k b, .bool y]) := by rw [h, h']
theorem ones_xor (x : Nat) (hx : x < 18446744073709551616) : 18446744073709551615 ^^^ x = 18446744073709551615 - x := by
  have h : (BitVec.allOnes 64 ^^^ BitVec.ofNat 64 x).toNat = (~~~(BitVec.ofNat 64 x)).toNat := by rw [BitVec.allOnes_xor]
  rw [BitVec.toNat_xor, BitVec.toNat_not, BitVec.toNat_allOnes, BitVec.toNat_ofNat, Nat.mod_eq_of_lt hx] at h
  exact h
theorem not64 (x : Int) (h0 : 0 ≤ x) (h1 : x < 18446744073709551616) : bits .xor .u64 IntKind.u64.max x = 18446744073709551615 - x := by
  have hm : IntKind.u64.max = 18446744073709551615 := rfl
  rw [hm, u64_xor _ _ (by omega) (by omega) h0 h1]
  have : (18446744073709551615 : Int).toNat = 18446744073709551615 := rfl
  rw [this, ones_xor _ (by omega)]
  omega
/-- Bytes as values. -/
def bys (l : List UInt8) : List Value := l.map fun b => .int .u8 b.toNat
theorem bys_length (l : List UInt8) : (bys l).length = l.length := by simp [bys]
theorem bys_append (l m : List UInt8) : bys (l ++ m) = bys l ++ bys m := by simp [bys]
theorem bys_one (l : List UInt8) : ∀ u ∈ bys l, u.oneCell' = true := by
  intro u hu
  simp only [bys, List.mem_map] at hu
  obtain ⟨b, _, rfl⟩ := hu
  rfl
theorem bys_get (l : List UInt8) (i : Nat) (h : i < l.length) : (bys l)[i]? = some (.int .u8 (l[i]'h).toNat) := by simp [bys, h]

/-- A slice value's cells: n elements of 'size' cells each. -/
def Reads (w : World) (size : Nat) (A : Option Addr) (n : Nat) (xs : List Value) : Prop :=
  xs.length = n * size ∧ (0 < n → ∃ ad, A = some ad ∧ ad.block < w.heap.size ∧ ∀ j u, xs[j]? = some u → w.cell? (ad.add j) = some u)

section
variable {w w' : World} {size n : Nat} {A : Option Addr} {xs : List Value}
theorem Reads.none_ : Reads w size none 0 [] := ⟨by simp, fun h => absurd h (by omega)⟩
theorem Reads.at_ {k : Nat} (h : Reads w 1 A n xs) (hk : k < n) : ∃ ad u, A = some ad ∧ xs[k]? = some u ∧ w.cell? (ad.add k) = some u := by
  obtain ⟨ad, e, _, hc⟩ := h.2 (by omega)
  have hl : k < xs.length := by have := h.1; omega
  exact ⟨ad, xs[k], e, List.getElem?_eq_getElem hl, hc k _ (List.getElem?_eq_getElem hl)⟩
theorem Reads.below {B : Nat} (h : Reads w size A n xs) (hb : Below B w w') (hB : w.heap.size ≤ B) : Reads w' size A n xs :=
  ⟨h.1, fun hn => by
    obtain ⟨ad, e, hl, hc⟩ := h.2 hn
    exact ⟨ad, e, Nat.lt_of_lt_of_le hl hb.size, fun j u hu => (hb.cell (by rw [block_of_add]; omega)).trans (hc j u hu)⟩⟩
theorem Reads.cut (h : Reads w size A n xs) {k cap : Nat} (hk : k ≤ n) (hc : n ≤ cap) :
    Reads w size (if cap = k then A else A.map (·.add (k * size))) (n - k) (xs.drop (k * size)) := by
  refine ⟨by rw [List.length_drop, h.1, Nat.sub_mul], fun hn => ?_⟩
  obtain ⟨ad, rfl, hb, hcell⟩ := h.2 (by omega)
  rw [if_neg (by omega)]
  refine ⟨ad.add (k * size), rfl, by rw [block_of_add]; exact hb, fun j u hu => ?_⟩
  rw [add_of_add]
  exact hcell _ u (by rw [← hu, List.getElem?_drop])
theorem Reads.take (h : Reads w size A n xs) {k : Nat} (hk : k ≤ n) : Reads w size A k (xs.take (k * size)) := by
  refine ⟨by rw [List.length_take, h.1]; exact Nat.min_eq_left (Nat.mul_le_mul_right _ hk), fun hn => ?_⟩
  obtain ⟨ad, rfl, hb, hcell⟩ := h.2 (by omega)
  refine ⟨ad, rfl, hb, fun j u hu => hcell j u ?_⟩
  rw [List.getElem?_take] at hu
  split at hu
  · exact hu
  · cases hu
theorem Reads.of_own {base : Nat} {e : TypeId} {c : Nat} (h : w.ownsRow base e size (.slice A n c) n xs) : Reads w size A n xs := by
  refine ⟨h.1, fun hn => ?_⟩
  obtain ⟨g, cap, hv, _, hlt⟩ := h.form hn
  have hA : A = some ⟨g, 0, none⟩ := by injection hv
  subst hA
  exact ⟨_, rfl, hlt, h.cells (g := g) rfl⟩
end
theorem own_form {w : World} {base : Nat} {e : TypeId} {size n : Nat} {v : Value} {xs : List Value} (h : w.ownsRow base e size v n xs) : ∃ A c, v = .slice A n c ∧ n ≤ c ∧ Reads w size A n xs := by
  rcases h.2 with ⟨rfl, rfl⟩ | ⟨g, cap, cur, rfl, _, _, hc, _⟩
  · exact ⟨none, 0, rfl, Nat.le_refl _, Reads.of_own h⟩
  · exact ⟨_, _, rfl, hc, Reads.of_own h⟩

/-- A fresh block of cells, whole. -/
theorem own_lit (w : World) (e : TypeId) (size n : Nat) (cs : Array Value) (h : cs.size = n * size) (hm : n ≤ maxLen) :
    (w.alloc (.cells cs e)).ownsRow w.heap.size e size (.slice (some ⟨w.heap.size, 0, none⟩) n n) n cs.toList :=
  ⟨by simpa using h, .inr ⟨w.heap.size, n, cs, rfl, Nat.le_refl _, heap_alloc_new w _, Nat.le_refl _, hm, h, by rw [List.take_of_length_le (by simp [h])]⟩⟩
theorem own_empty (w : World) (e : TypeId) (size : Nat) : (w.alloc (.cells #[] e)).ownsRow w.heap.size e size (.slice (some ⟨w.heap.size, 0, none⟩) 0 0) 0 [] :=
  own_lit w e size 0 #[] (by simp) (by simp [maxLen])
theorem below_alloc' {w w' : World} (h : Below w.heap.size w w') (o : Obj) : Below w.heap.size w (w'.alloc o) := h.alloc h.size o

theorem own_base {w : World} {base base' : Nat} {e : TypeId} {size n : Nat} {v : Value} {xs : List Value} (h : w.ownsRow base e size v n xs) (hb : base' ≤ base) : w.ownsRow base' e size v n xs := by
  refine ⟨h.1, ?_⟩
  rcases h.2 with h0 | ⟨g, cap, cur, h1, h2, h3⟩
  · exact .inl h0
  · exact .inr ⟨g, cap, cur, h1, Nat.le_trans hb h2, h3⟩
/-- A block that is known whole. -/
def Blk (w : World) (g : Nat) (t : TypeId) (cs : Array Value) : Prop := w.heap[g]? = some (.cells cs t (0, 0))
section
variable {w w' : World} {g : Nat} {t : TypeId} {cs : Array Value}
theorem Blk.lt (h : Blk w g t cs) : g < w.heap.size := by
  rcases Nat.lt_or_ge g w.heap.size with hlt | hge
  · exact hlt
  · unfold Blk at h; rw [Array.getElem?_eq_none hge] at h; cases h
theorem Blk.cell (h : Blk w g t cs) (i : Nat) : w.cell? ⟨g, i, none⟩ = cs[i]? := cell_of_row w g i cs t (0, 0) h
theorem Blk.frozen (h : Blk w g t cs) (i : Nat) : w.frozen? ⟨g, i, none⟩ = false := by
  unfold Blk at h
  simp [World.frozen?, h]
theorem Blk.new (w : World) (t : TypeId) (cs : Array Value) : Blk (w.alloc (.cells cs t)) w.heap.size t cs := heap_alloc_new w _
theorem Blk.drewN (h : Blk w g t cs) (n : Nat) : Blk (w.drewN n) g t cs := h
theorem Blk.alloc (h : Blk w g t cs) (o : Obj) : Blk (w.alloc o) g t cs := (Below.heap_alloc w o g h.lt).trans h
theorem Blk.set_ (h : Blk w g t cs) (i : Nat) (u : Value) : Blk (w.setCell ⟨g, i, none⟩ u) g t (cs.setIfInBounds i u) := by
  unfold Blk at h ⊢
  simp [World.setCell, Array.getElem?_modify, h]
theorem Blk.far (h : Blk w g t cs) {p : Addr} (hp : g ≠ p.block) (u : Value) : Blk (w.setCell p u) g t cs := (Below.heap_setCell w p u g hp).trans h
theorem Blk.below {B : Nat} (h : Blk w g t cs) (hb : Below B w w') (hg : g < B) : Blk w' g t cs := (hb.block g hg).trans h
theorem Blk.grown {row : Option Nat} (h : Blk w g t cs) (hb : w.grownBy w' row) (hg : some g ≠ row) : Blk w' g t cs := (hb.block g h.lt hg).trans h
theorem Blk.reads (h : Blk w g t cs) (size n off : Nat) (hn : (off + n) * size ≤ cs.size) : Reads w size (some ⟨g, off * size, none⟩) n ((cs.toList.drop (off * size)).take (n * size)) := by
  refine ⟨?_, fun _ => ⟨_, rfl, h.lt, fun j u hu => ?_⟩⟩
  · rw [List.length_take, List.length_drop, Array.length_toList]
    rw [Nat.add_mul] at hn
    omega
  · rw [add_at, h.cell]
    rw [List.getElem?_take] at hu
    split at hu
    · rw [List.getElem?_drop] at hu
      simpa using hu
    · cases hu
theorem Blk.own (h : Blk w g t cs) (base size n : Nat) (hb : base ≤ g) (hs : cs.size = n * size) (hm : n ≤ maxLen) : w.ownsRow base t size (.slice (some ⟨g, 0, none⟩) n n) n cs.toList :=
  ⟨by simpa using hs, .inr ⟨g, n, cs, rfl, hb, h, Nat.le_refl _, hm, hs, by rw [List.take_of_length_le (by simp [hs])]⟩⟩
end
theorem madeCells_one (z : Value) (n : Nat) : madeCells #[z] (n * 1) = Array.replicate n z := by
  apply Array.ext
  · simp [madeCells]
  · intro i h1 h2
    simp [madeCells, Nat.mod_one]
theorem Blk.own_toList {w : World} {g n : Nat} {e : TypeId} {cs : Array Value} (h : Blk w g e cs) (base : Nat) (hb : base ≤ g) (hs : cs.size = n) (hm : n ≤ maxLen) : w.ownsRow base e 1 (.slice (some ⟨g, 0, none⟩) n n) n cs.toList :=
  h.own base 1 n hb (by omega) hm
section
variable {P : Program} {ops : Array Oper} {rest : List Oper} {o : Oper} {a : Act} {Q : Exit → Act → World → Prop} {w : World}
/-- 'make([]T, n)', elements of one cell. -/
theorem wpList_make_blk (hg : o.guard = none) (l c : Operand) (t : TypeId) (hop : o.op = Op.makeSlice t l c)
    (e : TypeId) (i : TypeInfo) (z : Value) (h1 : P.underlying t = some (.slice e)) (h2 : P.info? e = some i) (h3 : i.zero = some z) (h4 : i.size = 1) (hz : z.cells = #[z])
    (kl kc : IntKind) (L C : Int) (n : Nat) (hl : a.eval l = .int kl L) (hc : a.eval c = .int kc C) (hL : L = (n : Int)) (hC : C = (n : Int)) (b2 : i.bytes * n ≤ 281474976710656) (b3 : n ≤ maxLen)
    (hK : ∀ w', Blk w' w.heap.size e (Array.replicate n z) → Below w.heap.size w w' → w'.heap.size = w.heap.size + 1 → wpList P ops Q rest (a.put o.dst (.slice (some ⟨w.heap.size, 0, none⟩) n n)) w') :
    wpList P ops Q (o :: rest) a w := by
  refine wpList_plain hg fun K hK' => ?_
  have hb : (i.bytes : Int) * ((n : Nat) : Int) ≤ 281474976710656 := by
    have h : ((i.bytes * n : Nat) : Int) ≤ 281474976710656 := by omega
    rwa [Int.natCast_mul] at h
  have hrun := run_make (P := P) w t e i z h1 h2 h3 kl kc (n : Int) (n : Int) (by omega) (by omega) hb (by simp only [maxLen] at b3; omega)
  subst hL
  subst hC
  simp only [Int.toNat_natCast, h4, hz, madeCells_one] at hrun
  unfold Oper.wp
  simp [execOp, hop, hl, hc, hrun, Result.andThen]
  exact hK' _ _ (hK _ (Blk.new _ _ _) ((Below.refl _ _).alloc (Nat.le_refl _) _) (by simp))
/-- 'copy(dst, src)', dst in a block that is known whole. -/
theorem wpList_copy_blk (hgd : o.guard = none) (d s : Operand) (dT sT : TypeId)
    (ho : o.op = .call { callee := .builtin .copy, args := #[d, s], argTypes := #[dT, sT] }) (elem : TypeId) (hu : P.underlying dT = some (.slice elem)) (hsz : (P.info? elem).map (·.size) = some 1)
    (dp sp : Option Addr) (dLen dCap sLen sCap : Nat) (hd : a.eval d = .slice dp dLen dCap) (hs : a.eval s = .slice sp sLen sCap)
    (g off : Nat) (cur : List Value) (t : TypeId) (hg : Blk w g t cur.toArray) (xs : List Value) (hx : Reads w 1 sp sLen xs)
    (hpos : 0 < dLen → dp = some ⟨g, off, none⟩)
    (hfit : off + dLen ≤ cur.length) (h1 : ∀ v ∈ xs, v.oneCell' = true) (B : Nat) (hBg : B ≤ g)
    (h : ∀ w', Blk w' g t (splice cur off (xs.take dLen)).toArray → Below B w w' → w'.heap.size = w.heap.size → wpList P ops Q rest (a.put o.dst (goInt (Nat.min sLen dLen))) w') :
    wpList P ops Q (o :: rest) a w := by
  have hxl : xs.length = sLen := by have := hx.1; simpa using this
  have hlen : (xs.take dLen).length = Nat.min sLen dLen := by rw [List.length_take, hxl]; exact Nat.min_comm _ _
  by_cases h0 : (xs.take dLen).length = 0
  · have he : xs.take dLen = [] := List.eq_nil_of_length_eq_zero h0
    rw [he] at h
    have hz : Nat.min sLen dLen = 0 := by rw [← hlen, h0]
    rw [hz] at h
    refine wpList_copy_nothing hgd d s dT sT ho elem hu hsz dp sp dLen dCap sLen sCap hd hs hz ?_
    exact h w (by simpa [splice] using hg) (Below.refl _ _) rfl
  · have hsp : 0 < sLen ∧ 0 < dLen := by
      rw [hlen] at h0
      have : 0 < Nat.min sLen dLen := Nat.pos_of_ne_zero h0
      exact ⟨Nat.lt_of_lt_of_le this (Nat.min_le_left _ _), Nat.lt_of_lt_of_le this (Nat.min_le_right _ _)⟩
    obtain ⟨ad, rfl, _, hcell⟩ := hx.2 hsp.1
    obtain rfl := hpos hsp.2
    have hle : (xs.take dLen).length ≤ dLen := List.length_take_le _ _
    refine wpList_copy_own hgd d s dT sT ho elem hu hsz g off dLen dCap ad sLen sCap hd hs cur.toArray t hg (xs.take dLen) hlen (fun j v hj => ?_) (by simp only [List.size_toArray]; omega) (fun v hv => h1 v (List.mem_of_mem_take hv)) ?_
    · rw [List.getElem?_take] at hj
      split at hj
      · exact hcell j v hj
      · cases hj
    · have hb1 : Blk (w.setRow g (cur.toArray.toList.take off ++ (xs.take dLen ++ cur.toArray.toList.drop (off + (xs.take dLen).length))).toArray) g t (splice cur off (xs.take dLen)).toArray := setRow_heap w g _ _ t _ hg
      have hq := h _ hb1 (below_setRow (Below.refl _ _) hBg _) (by simp [World.setRow])
      rw [← hlen] at hq
      exact hq
theorem setRow_grown (w : World) (g : Nat) (cs : Array Value) : w.grownBy (w.setRow g cs) (some g) :=
  ⟨rfl, rfl, rfl, by simp [World.setRow], fun k _ hk => setRow_other w g k cs (fun e => hk (by rw [e]))⟩
theorem setCell_grown (w : World) (p : Addr) (u : Value) : w.grownBy (w.setCell p u) (some p.block) :=
  ⟨rfl, rfl, rfl, by simp [World.setCell], fun k _ hk => Below.heap_setCell w p u k (fun e => hk (by rw [e]))⟩
theorem grown_of_below {B : Nat} {w w' : World} (h : Below B w w') (hB : w.heap.size ≤ B) (row : Option Nat) : w.grownBy w' row :=
  ⟨h.os, h.tape, h.output, h.size, fun i hi _ => h.block i (Nat.lt_of_lt_of_le hi hB)⟩
theorem below_of_grown {B g : Nat} {w w' : World} (h : w.grownBy w' (some g)) (hB : B ≤ g) (hs : B ≤ w.heap.size) : Below B w w' :=
  ⟨h.os, h.tape, h.output, h.size, fun k hk => h.block k (Nat.lt_of_lt_of_le hk hs) (fun e => by injection e with e; omega)⟩
theorem grown_trans {w w1 w2 : World} {row : Option Nat} (h : w.grownBy w1 row) (k : w1.grownBy w2 row) : w.grownBy w2 row :=
  ⟨k.os.trans h.os, k.tape.trans h.tape, k.output.trans h.output, Nat.le_trans h.size k.size, fun i hi hne => (k.block i (Nat.lt_of_lt_of_le hi h.size) hne).trans (h.block i hi hne)⟩
theorem grown_drewN {w w1 : World} {row : Option Nat} (h : w.grownBy w1 row) (n : Nat) : w.grownBy (w1.drewN n) row := ⟨h.os, h.tape, h.output, h.size, h.block⟩
theorem Blk.keep {w1 w2 : World} {g k : Nat} {t : TypeId} {cs : Array Value} (h : Blk w1 k t cs) (hg : w1.grownBy w2 (some g)) (hne : k ≠ g) : Blk w2 k t cs := h.grown hg (fun e => hne (by injection e))
/-- 'x = y' of whole arrays, x's block known whole. -/
theorem wpList_store_blk (hgd : o.guard = none) (ty : TypeId) (x y : Operand) (ho : o.op = .store ty x y) (g : Nat) (hx : a.eval x = .pointer (some ⟨g, 0, none⟩)) (cs old : Array Value) (hy : a.eval y = .agg cs)
    (t : TypeId) (hg : Blk w g t old) (hi : (P.info? ty).map (·.size) = some cs.size) (hsz : old.size = cs.size) (h1 : cs.all (·.oneCell') = true)
    (h : ∀ w', Blk w' g t cs → w.grownBy w' (some g) → w'.heap.size = w.heap.size → wpList P ops Q rest (a.put o.dst undef) w') : wpList P ops Q (o :: rest) a w :=
  wpList_store_row hgd ty x y ho g cs hx hy t old hg hi hsz h1 (h _ (setRow_heap w g _ _ t _ hg) (setRow_grown w g cs) (by simp [World.setRow]))
/-- 'copy(dst, src)', dst in a block that is known whole: nothing else turns. -/
theorem wpList_copy_only (hgd : o.guard = none) (d s : Operand) (dT sT : TypeId)
    (ho : o.op = .call { callee := .builtin .copy, args := #[d, s], argTypes := #[dT, sT] }) (elem : TypeId) (hu : P.underlying dT = some (.slice elem)) (hsz : (P.info? elem).map (·.size) = some 1)
    (dp sp : Option Addr) (dLen dCap sLen sCap : Nat) (hd : a.eval d = .slice dp dLen dCap) (hs : a.eval s = .slice sp sLen sCap)
    (g off : Nat) (cur : List Value) (t : TypeId) (hg : Blk w g t cur.toArray) (xs : List Value) (hx : Reads w 1 sp sLen xs)
    (hpos : 0 < dLen → dp = some ⟨g, off, none⟩)
    (hfit : off + dLen ≤ cur.length) (h1 : ∀ v ∈ xs, v.oneCell' = true) (res : List Value) (hres : splice cur off (xs.take dLen) = res)
    (h : ∀ w', Blk w' g t res.toArray → w.grownBy w' (some g) → w'.heap.size = w.heap.size → wpList P ops Q rest (a.put o.dst (goInt (Nat.min sLen dLen))) w') :
    wpList P ops Q (o :: rest) a w := by
  subst hres
  have hxl : xs.length = sLen := by have := hx.1; simpa using this
  have hlen : (xs.take dLen).length = Nat.min sLen dLen := by rw [List.length_take, hxl]; exact Nat.min_comm _ _
  by_cases h0 : (xs.take dLen).length = 0
  · have he : xs.take dLen = [] := List.eq_nil_of_length_eq_zero h0
    rw [he] at h
    have hz : Nat.min sLen dLen = 0 := by rw [← hlen, h0]
    rw [hz] at h
    refine wpList_copy_nothing hgd d s dT sT ho elem hu hsz dp sp dLen dCap sLen sCap hd hs hz ?_
    exact h w (by simpa [splice] using hg) (World.grownBy.refl w _) rfl
  · have hsp : 0 < sLen ∧ 0 < dLen := by
      rw [hlen] at h0
      have : 0 < Nat.min sLen dLen := Nat.pos_of_ne_zero h0
      exact ⟨Nat.lt_of_lt_of_le this (Nat.min_le_left _ _), Nat.lt_of_lt_of_le this (Nat.min_le_right _ _)⟩
    obtain ⟨ad, rfl, _, hcell⟩ := hx.2 hsp.1
    obtain rfl := hpos hsp.2
    have hle : (xs.take dLen).length ≤ dLen := List.length_take_le _ _
    refine wpList_copy_own hgd d s dT sT ho elem hu hsz g off dLen dCap ad sLen sCap hd hs cur.toArray t hg (xs.take dLen) hlen (fun j v hj => ?_) (by simp only [List.size_toArray]; omega) (fun v hv => h1 v (List.mem_of_mem_take hv)) ?_
    · rw [List.getElem?_take] at hj
      split at hj
      · exact hcell j v hj
      · cases hj
    · have hb1 : Blk (w.setRow g (cur.toArray.toList.take off ++ (xs.take dLen ++ cur.toArray.toList.drop (off + (xs.take dLen).length))).toArray) g t (splice cur off (xs.take dLen)).toArray := setRow_heap w g _ _ t _ hg
      have hq := h _ hb1 (setRow_grown w g _) (by simp [World.setRow])
      rw [← hlen] at hq
      exact hq
end
/-- 'b[lo:]', 'b[:hi]', 'b[lo:hi]': what the cut comes to, and what it reads as. -/
theorem cut_l {P : Program} {t e : TypeId} {i : TypeInfo} (ht : P.underlying t = some (.slice e)) (hi : P.info? e = some i) {size : Nat} (hs : i.size = size) (kl : IntKind) {w : World} {A : Option Addr} {n c : Nat} {xs : List Value}
    (h : Reads w size A n xs) (hc : n ≤ c) (L : Int) (l : Nat) (hL : L = (l : Int)) (hl : l ≤ n) :
    ∃ A' : Option Addr, (∀ W : World, (Instr.slice t (.slice A n c) (some (.int kl L)) none none).run P W = .ok (.slice A' (n - l) (c - l)) W) ∧ Reads w size A' (n - l) (xs.drop (l * size)) := by
  subst hL
  have hel : P.elem t = e := by simp [Program.elem, ht]
  have hu : P.underlying t = some (.slice (P.elem t)) := by rw [hel]; exact ht
  refine ⟨_, fun W => ?_, h.cut hl hc⟩
  rw [run_slice_l W t A n c hu kl (l : Int) (by omega) (by omega), hel]
  simp [sizeOf, typeInfo, hi, hs, sliced, Result.andThen]
theorem cut_h {P : Program} {t e : TypeId} {i : TypeInfo} (ht : P.underlying t = some (.slice e)) (hi : P.info? e = some i) {size : Nat} (hs : i.size = size) (kh : IntKind) {w : World} {A : Option Addr} {n c : Nat} {xs : List Value}
    (h : Reads w size A n xs) (hc : n ≤ c) (M : Int) (m : Nat) (hM : M = (m : Int)) (hm : m ≤ n) :
    ∃ A' : Option Addr, (∀ W : World, (Instr.slice t (.slice A n c) none (some (.int kh M)) none).run P W = .ok (.slice A' m c) W) ∧ Reads w size A' m (xs.take (m * size)) := by
  subst hM
  have hel : P.elem t = e := by simp [Program.elem, ht]
  have hu : P.underlying t = some (.slice (P.elem t)) := by rw [hel]; exact ht
  have h0 := (h.take hm).cut (k := 0) (cap := c) (Nat.zero_le _) (by omega)
  refine ⟨_, fun W => ?_, by simpa using h0⟩
  rw [run_slice_h W t A n c hu kh (m : Int) (by omega) (by omega), hel]
  simp [sizeOf, typeInfo, hi, hs, sliced, Result.andThen]
theorem cut_lh {P : Program} {t e : TypeId} {i : TypeInfo} (ht : P.underlying t = some (.slice e)) (hi : P.info? e = some i) {size : Nat} (hs : i.size = size) (kl kh : IntKind) {w : World} {A : Option Addr} {n c : Nat} {xs : List Value}
    (h : Reads w size A n xs) (hc : n ≤ c) (L M : Int) (l m : Nat) (hL : L = (l : Int)) (hM : M = (m : Int)) (hl : l ≤ m) (hm : m ≤ n) :
    ∃ A' : Option Addr, (∀ W : World, (Instr.slice t (.slice A n c) (some (.int kl L)) (some (.int kh M)) none).run P W = .ok (.slice A' (m - l) (c - l)) W) ∧ Reads w size A' (m - l) ((xs.take (m * size)).drop (l * size)) := by
  subst hL
  subst hM
  have hel : P.elem t = e := by simp [Program.elem, ht]
  have hu : P.underlying t = some (.slice (P.elem t)) := by rw [hel]; exact ht
  have h0 := (h.take hm).cut (k := l) (cap := c) hl (by omega)
  refine ⟨_, fun W => ?_, h0⟩
  rw [run_slice_lh W t A n c hu kl kh (l : Int) (m : Int) (by omega) (by omega) (by omega), hel]
  simp [sizeOf, typeInfo, hi, hs, sliced, Result.andThen]
/-- 'string(b)', b's bytes being l. -/
theorem conv_string {P : Program} {w : World} {src dst e : TypeId} {A : Option Addr} {n c : Nat} {l : List UInt8} (hs : P.underlying src = some (.slice e)) (he : P.underlying e = some (.int .u8)) (hd : P.underlying dst = some .string)
    (h : Reads w 1 A n (bys l)) : (convert src dst (.slice A n c)).run P w = .ok (.string ⟨l.toArray⟩) w := by
  have hl : n = l.length := by have := h.1; simp [bys] at this; omega
  subst hl
  rcases A with _ | ad
  · have h0 : l.length = 0 := by
      rcases Nat.eq_zero_or_pos l.length with h0 | h0
      · exact h0
      · obtain ⟨_, h1, _⟩ := h.2 h0
        cases h1
    obtain rfl : l = [] := List.eq_nil_of_length_eq_zero h0
    exact Lib.run_convert_nil_bytes w src dst e c hs he hd
  · refine run_convert_bytes_back w src dst e ad c l hs he hd fun j hj => ?_
    obtain ⟨ad', h1, _, hc⟩ := h.2 (by omega)
    injection h1 with h1
    subst h1
    exact hc j _ (bys_get l j hj)
theorem reads_lit (w : World) (size n : Nat) (xs : List Value) (cs : Array Value) (h : cs.toList = xs) (hn : xs.length = n * size) (o : TypeId) : Reads (w.alloc (.cells cs o)) size (some ⟨w.heap.size, 0, none⟩) n xs := by
  have hs : cs.size = n * size := by rw [← Array.length_toList, h, hn]
  have := (Blk.new w o cs).reads size n 0 (by rw [Nat.zero_add]; omega)
  simp only [Nat.zero_mul, List.drop_zero] at this
  rw [h, List.take_of_length_le (by omega)] at this
  exact this
/-- Two rows of different element types lie in different blocks. -/
theorem own_type_ne {w : World} {b b' : Nat} {e e' : TypeId} {s s' n n' : Nat} {v v' : Value} {xs xs' : List Value} (h : w.ownsRow b e s v n xs) (h' : w.ownsRow b' e' s' v' n' xs') (hne : e ≠ e') : v.ownBlock = none ∨ v.ownBlock ≠ v'.ownBlock := by
  rcases h.2 with ⟨rfl, _⟩ | ⟨g, cap, cur, rfl, _, hh, _⟩
  · exact .inl rfl
  · refine .inr fun hk => ?_
    rcases h'.2 with ⟨rfl, _⟩ | ⟨g', cap', cur', rfl, _, hh', _⟩
    · simp [Value.ownBlock] at hk
    · have : g = g' := by simpa [Value.ownBlock] using hk
      subst this
      rw [hh] at hh'
      injection hh' with hh'
      injection hh' with _ ht
      exact hne ht
theorem own_blk_ne {w : World} {base : Nat} {e t : TypeId} {size n g : Nat} {v : Value} {xs : List Value} {cs : Array Value} (h : w.ownsRow base e size v n xs) (hg : Blk w g t cs) (hne : e ≠ t) : some g ≠ v.ownBlock := by
  rcases h.2 with ⟨rfl, _⟩ | ⟨g', cap, cur, rfl, _, hh, _⟩
  · simp [Value.ownBlock]
  · intro he
    have : g = g' := by simpa [Value.ownBlock] using he
    subst this
    unfold Blk at hg
    rw [hh] at hg
    injection hg with hg
    injection hg with _ ht
    exact hne ht
theorem own_block_ge {w : World} {base : Nat} {e : TypeId} {size n : Nat} {v : Value} {xs : List Value} (h : w.ownsRow base e size v n xs) (k : Nat) (hk : v.ownBlock = some k) : base ≤ k := by
  rcases h.2 with ⟨rfl, _⟩ | ⟨g, cap, cur, rfl, hb, _⟩
  · simp [Value.ownBlock] at hk
  · have : g = k := by simpa [Value.ownBlock] using hk
    omega
theorem own_below {w w1 : World} {base : Nat} {e : TypeId} {size n : Nat} {v : Value} {xs : List Value} (h : w.ownsRow base e size v n xs) (hb : Below w.heap.size w w1) : w1.ownsRow base e size v n xs :=
  h.kept (⟨hb.os, hb.tape, hb.output, hb.size, fun i hi _ => hb.block i hi⟩ : w.grownBy w1 none) (by cases v.ownBlock <;> simp)
theorem own_setCell {w : World} {base : Nat} {e t : TypeId} {size n g : Nat} {v : Value} {xs : List Value} {cs : Array Value} (h : w.ownsRow base e size v n xs) (hg : Blk w g t cs) (hne : e ≠ t) (i : Nat) (u : Value) : (w.setCell ⟨g, i, none⟩ u).ownsRow base e size v n xs := by
  have hb := own_blk_ne h hg hne
  refine ⟨h.1, ?_⟩
  rcases h.2 with h0 | ⟨g', cap, cur, rfl, h2, hh, h3⟩
  · exact .inl h0
  · refine .inr ⟨g', cap, cur, rfl, h2, ?_, h3⟩
    have : g' ≠ g := by
      intro e1
      subst e1
      exact hb rfl
    exact (Below.heap_setCell w _ u g' this).trans hh
theorem size_alloc_le {B : Nat} {w W : World} (h : Below B w W) (o : Obj) : w.heap.size ≤ (W.alloc o).heap.size := Nat.le_trans h.size (by simp)
theorem below_then {w w1 w2 : World} (h : Below w.heap.size w w1) (k : Below w1.heap.size w1 w2) : Below w.heap.size w w2 :=
  h.trans (k.mono h.size)

section
variable {P : Program} (w : World)
theorem run_append_of_nil (base : Nat) (t ty e : TypeId) (i : TypeInfo) (size : Nat) (ht : P.underlying t = some (.slice e)) (hi : P.info? e = some i)
    (v : Value) (n : Nat) (xs : List Value) (hown : w.ownsRow base e size v n xs) (c : Nat) : (Builtin.append_ #[t, t] ty #[v, .slice none 0 c]).run P w = .ok v w := by
  rcases hown.2 with ⟨rfl, rfl⟩ | ⟨g, cap, cur, rfl, _, _, hnc, _⟩
  · simp [Builtin.append_, run_underlying ht, sizeOf, typeInfo, hi, Builtin.lenOf, Builtin.firstCells]
  · simp [Builtin.append_, run_underlying ht, sizeOf, typeInfo, hi, Builtin.lenOf, Builtin.firstCells, hnc, storeCells]

theorem run_append_any (base : Nat) (t ty e : TypeId) (i : TypeInfo) (z : Value) (size bytes : Nat) (ht : P.underlying t = some (.slice e)) (hi : P.info? e = some i) (hz : i.zero = some z)
    (hsize : i.size = size) (hby : i.bytes = bytes) (hzs : z.cells.size = size) (hsz : 0 < size)
    (v : Value) (n : Nat) (xs : List Value) (hown : w.ownsRow base e size v n xs)
    (A : Option Addr) (m c : Nat) (news : List Value) (hr : Reads w size A m news) (h1 : ∀ u ∈ news, u.oneCell' = true)
    (h63 : n + m ≤ maxLen) (hbytes : (n + m) * bytes ≤ 140737488355328) (hbase : base ≤ w.heap.size) :
    ∃ v' w', (Builtin.append_ #[t, t] ty #[v, .slice A m c]).run P w = .ok v' w' ∧ w'.ownsRow base e size v' (n + m) (xs ++ news) ∧ w.grownBy w' v.ownBlock ∧
      (v'.ownBlock = v.ownBlock ∨ v'.ownBlock = some w.heap.size) := by
  rcases A with _ | ad
  · have hm : m = 0 := by
      rcases Nat.eq_zero_or_pos m with h0 | h0
      · exact h0
      · obtain ⟨ad, h, _⟩ := hr.2 h0
        cases h
    subst hm
    have hn : news = [] := List.eq_nil_of_length_eq_zero (by simpa using hr.1)
    subst hn
    exact ⟨v, w, run_append_of_nil w base t ty e i size ht hi v n xs hown c, by simpa using hown, World.grownBy.refl w _, .inl rfl⟩
  · have hcells : ∀ j u, news[j]? = some u → w.cell? (ad.add j) = some u := by
      intro j u hu
      rcases Nat.eq_zero_or_pos m with h0 | h0
      · subst h0
        have hn : news = [] := List.eq_nil_of_length_eq_zero (by simpa using hr.1)
        subst hn
        simp at hu
      · obtain ⟨ad', h, _, hc⟩ := hr.2 h0
        injection h with h
        subst h
        exact hc j u hu
    obtain ⟨v', w', hrun, h2, h3, _, h5⟩ := run_append_own_at (P := P) w base t ty e i z size bytes ht hi hz hsize hby hzs hsz v n xs hown ad m c news hr.1 hcells h1 h63 hbytes hbase
    exact ⟨v', w', hrun, h2, h3, h5⟩

theorem wp_append_any {o : Oper} {a : Act} {K : Act → World → Prop} {Q : Exit → Act → World → Prop} (s x : Operand) (t : TypeId)
    (ho : o.op = .call { callee := .builtin .append, args := #[s, x], argTypes := #[t, t] })
    (base : Nat) (e : TypeId) (i : TypeInfo) (z : Value) (size bytes : Nat) (ht : P.underlying t = some (.slice e)) (hi : P.info? e = some i) (hz : i.zero = some z)
    (hsize : i.size = size) (hby : i.bytes = bytes) (hzs : z.cells.size = size) (hsz : 0 < size)
    (v : Value) (n : Nat) (xs : List Value) (hs : a.eval s = v) (hown : w.ownsRow base e size v n xs)
    (A : Option Addr) (m c : Nat) (news : List Value) (hx : a.eval x = .slice A m c) (hr : Reads w size A m news) (h1 : ∀ u ∈ news, u.oneCell' = true)
    (h63 : n + m ≤ maxLen) (hbytes : (n + m) * bytes ≤ 140737488355328) (hbase : base ≤ w.heap.size)
    (h : ∀ v' w', w'.ownsRow base e size v' (n + m) (xs ++ news) → w.grownBy w' v.ownBlock → (v'.ownBlock = v.ownBlock ∨ v'.ownBlock = some w.heap.size) → K (a.put o.dst v') w') : o.wp P a w K Q := by
  obtain ⟨v', w', hrun, h2, h3, h4⟩ := run_append_any (P := P) w base t o.type e i z size bytes ht hi hz hsize hby hzs hsz v n xs hown A m c news hr h1 h63 hbytes hbase
  unfold Oper.wp execOp
  simp only [ho, resolve, invoke, builtin, Sem.run_bind, Sem.run_pure, Result.andThen_ok, List.map_toArray, List.map_cons, List.map_nil, hs, hx, hrun]
  exact h v' w' h2 h3 h4

theorem wpList_append_any {ops : Array Oper} {rest : List Oper} {o : Oper} {a : Act} {Q : Exit → Act → World → Prop} (hgd : o.guard = none) (s x : Operand) (t : TypeId)
    (ho : o.op = .call { callee := .builtin .append, args := #[s, x], argTypes := #[t, t] })
    (base : Nat) (e : TypeId) (i : TypeInfo) (z : Value) (size bytes : Nat) (ht : P.underlying t = some (.slice e)) (hi : P.info? e = some i) (hz : i.zero = some z)
    (hsize : i.size = size) (hby : i.bytes = bytes) (hzs : z.cells.size = size) (hsz : 0 < size)
    (v : Value) (n : Nat) (xs : List Value) (hs : a.eval s = v) (hown : w.ownsRow base e size v n xs)
    (A : Option Addr) (m c : Nat) (news : List Value) (hx : a.eval x = .slice A m c) (hr : Reads w size A m news) (h1 : ∀ u ∈ news, u.oneCell' = true)
    (h63 : n + m ≤ maxLen) (hbytes : (n + m) * bytes ≤ 140737488355328) (hbase : base ≤ w.heap.size)
    (h : ∀ v' w', w'.ownsRow base e size v' (n + m) (xs ++ news) → w.grownBy w' v.ownBlock → (v'.ownBlock = v.ownBlock ∨ v'.ownBlock = some w.heap.size) → wpList P ops Q rest (a.put o.dst v') w') : wpList P ops Q (o :: rest) a w :=
  wpList_plain hgd fun _ hK => wp_append_any w s x t ho base e i z size bytes ht hi hz hsize hby hzs hsz v n xs hs hown A m c news hx hr h1 h63 hbytes hbase fun v' w' h2 h3 h4 => hK _ _ (h v' w' h2 h3 h4)
end
end Go.Proofs.YtapjbdigpleekaaGreat.K
