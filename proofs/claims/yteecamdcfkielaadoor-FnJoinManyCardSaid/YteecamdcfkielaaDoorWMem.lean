/- The key wrap on bytes (plain), and the memory of its walk. -/
import Derived.Test.YteecamdcfkielaaDoorSmall
set_option linter.unusedVariables false
set_option linter.unusedSimpArgs false
namespace Go.Proofs.YteecamdcfkielaaDoor.Wr
open Go.RowKit Go.Proofs.YteecamdcfkielaaDoor.K Go.Proofs.YteecamdcfkielaaDoor.Own
/-- A word of some bytes. -/
def word (bs : List UInt8) (j : Nat) : List UInt8 := (bs.drop (8 * j)).take 8
theorem word_len (bs : List UInt8) (n j : Nat) (h : bs.length = 8 * n) (hj : j < n) : (word bs j).length = 8 := by
  simp only [word, List.length_take, List.length_drop]
  omega
/-- Words with one of them changed. -/
def upd (ws : Nat → List UInt8) (i : Nat) (x : List UInt8) (j : Nat) : List UInt8 := if j = i then x else ws j
theorem upd_same (ws : Nat → List UInt8) (i : Nat) (x : List UInt8) : upd ws i x i = x := by simp [upd]
theorem upd_other (ws : Nat → List UInt8) {i j : Nat} (x : List UInt8) (h : j ≠ i) : upd ws i x j = ws j := by simp [upd, h]
/-- The first k bytes mixed by xor. -/
def mixed (a b : List UInt8) (k : Nat) : List UInt8 := (List.range a.length).map fun i => if i < k then bt a i ^^^ bt b i else bt a i
theorem mixed_len (a b : List UInt8) (k : Nat) : (mixed a b k).length = a.length := by simp [mixed]
theorem mixed_zero (a b : List UInt8) : mixed a b 0 = a := by
  refine List.ext_getElem (by simp [mixed]) (fun i h1 h2 => ?_)
  simp [mixed, bt_get a i h2]
theorem mixed_at (a b : List UInt8) (k i : Nat) (h : i < a.length) : bt (mixed a b k) i = if i < k then bt a i ^^^ bt b i else bt a i := by
  rw [bt_get _ _ (by rw [mixed_len]; exact h)]
  simp [mixed]
theorem mixed_next (a b : List UInt8) (k : Nat) (h : k < a.length) : (bys (mixed a b k)).toArray.setIfInBounds k (.int .u8 ((bt a k ^^^ bt b k).toNat : Nat)) = (bys (mixed a b (k + 1))).toArray := by
  apply Array.ext
  · simp [bys, mixed]
  · intro i h1 h2
    have hi : i < a.length := by simpa [bys, mixed] using h2
    rw [Array.getElem_setIfInBounds (by simpa using h1)]
    by_cases hk : k = i
    · subst hk
      simp [bys, mixed]
    · rw [if_neg hk]
      have e : (i < k + 1) = (i < k) := by apply propext; omega
      simp [bys, mixed, e]
/-- One step of the wrap, and of its way back. -/
def encStep (E : List UInt8 → List UInt8) (n t : Nat) (p : List UInt8 × (Nat → List UInt8)) : List UInt8 × (Nat → List UInt8) :=
  ((mixed (E (p.1 ++ p.2 (t % n))) (b8 (t + 1)) 8).take 8, upd p.2 (t % n) ((E (p.1 ++ p.2 (t % n))).drop 8))
def encRun (E : List UInt8 → List UInt8) (n : Nat) : Nat → List UInt8 × (Nat → List UInt8) → List UInt8 × (Nat → List UInt8)
  | 0, p => p
  | t + 1, p => encStep E n t (encRun E n t p)
def decStep (D : List UInt8 → List UInt8) (n t : Nat) (p : List UInt8 × (Nat → List UInt8)) : List UInt8 × (Nat → List UInt8) :=
  ((D ((mixed p.1 (b8 (t + 1)) 8) ++ p.2 (t % n))).take 8, upd p.2 (t % n) ((D ((mixed p.1 (b8 (t + 1)) 8) ++ p.2 (t % n))).drop 8))
def decRun (D : List UInt8 → List UInt8) (n : Nat) : Nat → List UInt8 × (Nat → List UInt8) → List UInt8 × (Nat → List UInt8)
  | 0, p => p
  | t + 1, p => decRun D n t (decStep D n t p)
/-- The words one behind the other. -/
def flat (ws : Nat → List UInt8) : Nat → List UInt8
  | 0 => []
  | n + 1 => flat ws n ++ ws n
theorem flat_len (ws : Nat → List UInt8) : ∀ n, (∀ j, j < n → (ws j).length = 8) → (flat ws n).length = 8 * n
  | 0, _ => rfl
  | n + 1, h => by rw [flat, List.length_append, flat_len ws n (fun j hj => h j (by omega)), h n (by omega)]; omega
/-- The row of the words' slices, k of them made. -/
def slots (gr n k : Nat) : List Value := (List.range n).map fun j => if j < k then .slice (some ⟨gr + 1 + j, 0, none⟩) 8 8 else .slice none 0 0
theorem slots_len (gr n k : Nat) : (slots gr n k).length = n := by simp [slots]
theorem slots_zero (gr n : Nat) : (slots gr n 0).toArray = Array.replicate n (.slice none 0 0) := by
  apply Array.ext
  · simp [slots]
  · intro i h1 h2
    simp [slots]
theorem slots_at (gr n k i : Nat) (hi : i < n) (hk : i < k) : (slots gr n k).toArray[i]? = some (.slice (some ⟨gr + 1 + i, 0, none⟩) 8 8) := by
  simp [slots, hi, hk]
theorem slots_next (gr n k : Nat) : (slots gr n k).toArray.setIfInBounds k (.slice (some ⟨gr + 1 + k, 0, none⟩) 8 8) = (slots gr n (k + 1)).toArray := by
  apply Array.ext
  · simp [slots]
  · intro i h1 h2
    rw [Array.getElem_setIfInBounds (by simpa using h1)]
    by_cases hk : k = i
    · subst hk
      simp [slots]
    · rw [if_neg hk]
      have e : (i < k + 1) = (i < k) := by apply propext; omega
      simp [slots, e]
/-- A slice goes into a row of slices. -/
theorem wpList_putS {P : Program} {ops : Array Oper} {rest : List Oper} {o : Oper} {a : Act} {w : World} {Q : Exit → Act → World → Prop} (hP : P = Tryd.prog) (hgd : o.guard = none) (x y : Operand) (ho : o.op = .store 23 x y)
    (g i : Nat) (hx : a.eval x = .pointer (some ⟨g, i, none⟩)) (p : Option Addr) (n c : Nat) (hy : a.eval y = .slice p n c) (cs : Array Value) (hb : Blk w g 23 cs) (hi : i < cs.size)
    (h : ∀ w', Blk w' g 23 (cs.setIfInBounds i (.slice p n c)) → w.grownBy w' (some g) → w'.heap.size = w.heap.size → wpList P ops Q rest (a.put o.dst undef) w') : wpList P ops Q (o :: rest) a w := by
  subst hP
  refine wpList_plain hgd fun K hK => ?_
  have hf := hb.frozen i
  have hc := hb.cell i
  rw [Array.getElem?_eq_getElem hi] at hc
  have hq := h _ (hb.set_ i (.slice p n c)) (setCell_grown w ⟨g, i, none⟩ (.slice p n c)) (by simp [World.setCell])
  have hk := hK _ _ hq
  clear hK hq h
  unfold Oper.wp execOp
  simp only [ho, hx, hy]
  go_simp
  exact hk
/-- The memory of the wrap's walk. -/
structure St (w wr : World) (n : Nat) (ws : Nat → List UInt8) (buf tb : List UInt8) : Prop where
  row : Blk wr w.heap.size 23 (slots w.heap.size n n).toArray
  wd : ∀ j, j < n → Blk wr (w.heap.size + 1 + j) 5 (bys (ws j)).toArray
  len : ∀ j, j < n → (ws j).length = 8
  cbuf : Blk wr (w.heap.size + 1 + n) 5 (bys buf).toArray
  blen : buf.length = 16
  ctb : Blk wr (w.heap.size + 2 + n) 5 (bys tb).toArray
  tlen : tb.length = 8
  below : Below w.heap.size w wr
section
variable {w wr w' : World} {n : Nat} {ws : Nat → List UInt8} {buf tb : List UInt8}
theorem St.size (h : St w wr n ws buf tb) : w.heap.size + 3 + n ≤ wr.heap.size := by have := h.ctb.lt; omega
theorem St.drew (h : St w wr n ws buf tb) : St w wr.drew n ws buf tb := ⟨h.row, h.wd, h.len, h.cbuf, h.blen, h.ctb, h.tlen, h.below.drew⟩
theorem St.setBuf (h : St w wr n ws buf tb) (buf' : List UInt8) (hl : buf'.length = 16) (hg : wr.grownBy w' (some (w.heap.size + 1 + n))) (hb : Blk w' (w.heap.size + 1 + n) 5 (bys buf').toArray) : St w w' n ws buf' tb :=
  ⟨h.row.keep hg (by omega), fun j hj => (h.wd j hj).keep hg (by omega), h.len, hb, hl, h.ctb.keep hg (by omega), h.tlen, h.below.trans (below_of_grown hg (by omega) h.below.size)⟩
theorem St.setTb (h : St w wr n ws buf tb) (tb' : List UInt8) (hl : tb'.length = 8) (hg : wr.grownBy w' (some (w.heap.size + 2 + n))) (hb : Blk w' (w.heap.size + 2 + n) 5 (bys tb').toArray) : St w w' n ws buf tb' :=
  ⟨h.row.keep hg (by omega), fun j hj => (h.wd j hj).keep hg (by omega), h.len, h.cbuf.keep hg (by omega), h.blen, hb, hl, h.below.trans (below_of_grown hg (by omega) h.below.size)⟩
theorem St.setWd (h : St w wr n ws buf tb) (i : Nat) (hi : i < n) (x : List UInt8) (hl : x.length = 8) (hg : wr.grownBy w' (some (w.heap.size + 1 + i))) (hb : Blk w' (w.heap.size + 1 + i) 5 (bys x).toArray) : St w w' n (upd ws i x) buf tb :=
  ⟨h.row.keep hg (by omega), fun j hj => by
    by_cases e : j = i
    · subst e
      rw [upd_same]
      exact hb
    · rw [upd_other _ _ e]
      exact (h.wd j hj).keep hg (by omega), fun j hj => by
    by_cases e : j = i
    · subst e
      rw [upd_same]
      exact hl
    · rw [upd_other _ _ e]
      exact h.len j hj, h.cbuf.keep hg (by omega), h.blen, h.ctb.keep hg (by omega), h.tlen, h.below.trans (below_of_grown hg (by omega) h.below.size)⟩
theorem St.slot (h : St w wr n ws buf tb) {i : Nat} (hi : i < n) : wr.cell? ⟨w.heap.size, i, none⟩ = some (.slice (some ⟨w.heap.size + 1 + i, 0, none⟩) 8 8) := by
  rw [h.row.cell, slots_at _ _ _ _ hi hi]
theorem St.grown (h : St w wr n ws buf tb) {g : Nat} (hg : wr.grownBy w' (some g)) (hlo : w.heap.size + 3 + n ≤ g) : St w w' n ws buf tb :=
  ⟨h.row.keep hg (by omega), fun j hj => (h.wd j hj).keep hg (by omega), h.len, h.cbuf.keep hg (by omega), h.blen, h.ctb.keep hg (by omega), h.tlen, h.below.trans (below_of_grown hg (by omega) h.below.size)⟩
theorem St.then (h : St w wr n ws buf tb) (hb : Below wr.heap.size wr w') : St w w' n ws buf tb :=
  ⟨h.row.below hb h.row.lt, fun j hj => (h.wd j hj).below hb (h.wd j hj).lt, h.len, h.cbuf.below hb h.cbuf.lt, h.blen, h.ctb.below hb h.ctb.lt, h.tlen, below_then h.below hb⟩
end
end Go.Proofs.YteecamdcfkielaaDoor.Wr
