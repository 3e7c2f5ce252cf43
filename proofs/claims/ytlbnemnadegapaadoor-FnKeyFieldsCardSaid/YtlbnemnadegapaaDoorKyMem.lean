/- A slice of one-cell elements that may begin anywhere in its row: appended to, cut at its head or its end, an element taken out; the conditions are on what lies in memory. -/
import Derived.Test.YtlbnemnadegapaaDoorK
import Derived.ArgAppend
set_option linter.unusedVariables false
set_option linter.unusedSimpArgs false
namespace Go.Proofs.YtlbnemnadegapaaDoor.Ky
open Go.RowKit Go.Proofs.YtlbnemnadegapaaDoor.K
/-- The slice v reads as xs, in a row of the call's own. -/
def KL (w : World) (base : Nat) (E : TypeId) (v : Value) (xs : List Value) : Prop :=
  ∃ A c, v = .slice A xs.length c ∧ xs.length ≤ c ∧ c ≤ maxLen ∧ ((A = none ∧ c = 0) ∨ ∃ g off cs, A = some ⟨g, off, none⟩ ∧ base ≤ g ∧ Blk w g E cs ∧ off + c ≤ cs.size ∧ ∀ j (h : j < xs.length), cs[off + j]? = some xs[j])
/-- Nothing but rows of the bad types has turned. -/
structure Fr (bad : TypeId → Prop) (w w' : World) : Prop where
  os : w'.os = w.os
  tape : w'.tape = w.tape
  output : w'.output = w.output
  size : w.heap.size ≤ w'.heap.size
  keep : ∀ j, j < w.heap.size → (∀ cs T z, w.heap[j]? = some (.cells cs T z) → ¬ bad T) → w'.heap[j]? = w.heap[j]?
section
variable {bad : TypeId → Prop} {w w1 w' : World}
theorem Fr.refl (w : World) : Fr bad w w := ⟨rfl, rfl, rfl, Nat.le_refl _, fun _ _ _ => rfl⟩
theorem Fr.trans (h : Fr bad w w1) (k : Fr bad w1 w') : Fr bad w w' :=
  ⟨k.os.trans h.os, k.tape.trans h.tape, k.output.trans h.output, Nat.le_trans h.size k.size, fun j hj hb => by
    have e := h.keep j hj hb
    rw [k.keep j (Nat.lt_of_lt_of_le hj h.size) (by rw [e]; exact hb), e]⟩
theorem Fr.of_grown {r : Option Nat} (h : w.grownBy w' r) (hr : ∀ j, r = some j → j < w.heap.size → ∃ cs T z, w.heap[j]? = some (.cells cs T z) ∧ bad T) : Fr bad w w' :=
  ⟨h.os, h.tape, h.output, h.size, fun j hj hb => h.block j hj (fun e => by
    obtain ⟨cs, T, z, a, b⟩ := hr j e.symm hj
    exact hb cs T z a b)⟩
theorem Fr.of_none (h : w.grownBy w' none) : Fr bad w w' := Fr.of_grown h (fun j e => by cases e)
theorem Fr.of_below (h : Below w.heap.size w w') : Fr bad w w' := Fr.of_none (grown_of_below h (Nat.le_refl _) none)
theorem Fr.alloc (w : World) (o : Obj) : Fr bad w (w.alloc o) := Fr.of_none (World.grownBy_alloc w o none)
theorem Fr.drew (h : Fr bad w w') : Fr bad w w'.drew := ⟨h.os, h.tape, h.output, h.size, h.keep⟩
theorem Fr.setCell {g i : Nat} {T : TypeId} {cs : Array Value} (hb : Blk w g T cs) (hT : bad T) (u : Value) : Fr bad w (w.setCell ⟨g, i, none⟩ u) :=
  Fr.of_grown (setCell_grown w ⟨g, i, none⟩ u) (fun j e _ => by injection e with e; subst e; exact ⟨cs, T, (0, 0), hb, hT⟩)
theorem Fr.mono {bad' : TypeId → Prop} (h : Fr bad w w') (hi : ∀ T, bad T → bad' T) : Fr bad' w w' :=
  ⟨h.os, h.tape, h.output, h.size, fun j hj hb => h.keep j hj (fun cs T z e hT => hb cs T z e (hi T hT))⟩
theorem Fr.blk (h : Fr bad w w') {g : Nat} {T : TypeId} {cs : Array Value} (hb : Blk w g T cs) (hT : ¬ bad T) : Blk w' g T cs := by
  unfold Blk at hb ⊢
  rw [h.keep g (Array.getElem?_eq_some_iff.1 hb).1 (fun cs' T' z e => by rw [hb] at e; injection e with e; injection e with _ e; exact e ▸ hT)]
  exact hb
end
section
variable {w w' : World} {base : Nat} {E : TypeId} {v : Value} {xs : List Value}
theorem KL.nil (w : World) (base : Nat) (E : TypeId) : KL w base E (.slice none 0 0) [] := ⟨none, 0, rfl, Nat.le_refl _, Nat.zero_le _, .inl ⟨rfl, rfl⟩⟩
theorem KL.grown (h : KL w base E v xs) {r : Option Nat} (hg : w.grownBy w' r) (hr : ∀ g cs, Blk w g E cs → base ≤ g → some g ≠ r) : KL w' base E v xs := by
  obtain ⟨A, c, h1, h2, h3, h4⟩ := h
  refine ⟨A, c, h1, h2, h3, ?_⟩
  rcases h4 with h4 | ⟨g, off, cs, a1, a2, a3, a4⟩
  · exact .inl h4
  · exact .inr ⟨g, off, cs, a1, a2, a3.grown hg (hr g cs a3 a2), a4⟩
theorem KL.fr {bad : TypeId → Prop} (h : KL w base E v xs) (hf : Fr bad w w') (hE : ¬ bad E) : KL w' base E v xs := by
  obtain ⟨A, c, h1, h2, h3, h4⟩ := h
  refine ⟨A, c, h1, h2, h3, ?_⟩
  rcases h4 with h4 | ⟨g, off, cs, a1, a2, a3, a4⟩
  · exact .inl h4
  · exact .inr ⟨g, off, cs, a1, a2, hf.blk a3 hE, a4⟩
theorem KL.below (h : KL w base E v xs) (hb : Below w.heap.size w w') : KL w' base E v xs :=
  h.grown (grown_of_below hb (Nat.le_refl _) none) (fun _ _ _ _ => by simp)
theorem KL.alloc (h : KL w base E v xs) (o : Obj) : KL (w.alloc o) base E v xs := h.grown (World.grownBy_alloc w o none) (fun _ _ _ _ => by simp)
/-- A store into a block of another type. -/
theorem KL.setCell (h : KL w base E v xs) {g i : Nat} {T : TypeId} {cs : Array Value} (hb : Blk w g T cs) (hne : E ≠ T) (u : Value) : KL (w.setCell ⟨g, i, none⟩ u) base E v xs :=
  h.grown (setCell_grown w ⟨g, i, none⟩ u) (fun k cs' hk _ e => by
    injection e with e
    subst e
    unfold Blk at hk hb
    rw [hk] at hb
    injection hb with hb
    injection hb with _ ht
    exact hne ht)
theorem KL.at_ (h : KL w base E v xs) {j : Nat} (hj : j < xs.length) : ∃ g off c, v = .slice (some ⟨g, off, none⟩) xs.length c ∧ w.cell? ⟨g, off + j, none⟩ = some xs[j] := by
  obtain ⟨A, c, h1, h2, h3, h4⟩ := h
  rcases h4 with ⟨_, h0⟩ | ⟨g, off, cs, rfl, a2, a3, a4, a5⟩
  · omega
  exact ⟨g, off, c, h1, by rw [a3.cell]; exact a5 j hj⟩
theorem KL.len (h : KL w base E v xs) : ∃ A c, v = .slice A xs.length c ∧ xs.length ≤ c ∧ c ≤ maxLen := by
  obtain ⟨A, c, h1, h2, h3, _⟩ := h
  exact ⟨A, c, h1, h2, h3⟩
theorem KL.of_own {n : Nat} (h : w.ownsRow base E 1 v n xs) : KL w base E v xs := by
  have hn : xs.length = n := by have := h.1; simpa using this
  rcases h.2 with ⟨rfl, rfl⟩ | ⟨g, cap, cur, rfl, h1, h2, h3, h4, h5, h6⟩
  · simp at hn
    subst hn
    exact KL.nil w base E
  · subst hn
    refine ⟨_, cap, rfl, h3, h4, .inr ⟨g, 0, cur, rfl, h1, h2, by omega, fun j hj => ?_⟩⟩
    have h7 := congrArg (fun l => l[j]?) h6
    simp only [List.getElem?_take, Nat.mul_one, if_pos hj, Nat.zero_add, Array.getElem?_toList] at h7 ⊢
    rw [h7, List.getElem?_eq_getElem hj]
/-- What several stores leave of a block. -/
theorem Blk.setCells {g : Nat} {T : TypeId} : ∀ (vs : List Value) (o : Nat) (w : World) (cs : Array Value), Blk w g T cs → o + vs.length ≤ cs.size →
    ∃ cs', Blk (w.setCells g o vs) g T cs' ∧ cs'.size = cs.size ∧ (∀ j (h : j < vs.length), cs'[o + j]? = some vs[j]) ∧ (∀ j, j < o → cs'[j]? = cs[j]?) ∧ w.grownBy (w.setCells g o vs) (some g)
  | [], o, w, cs, h, _ => ⟨cs, h, rfl, fun j hj => absurd hj (by simp), fun _ _ => rfl, World.grownBy.refl w _⟩
  | v :: r, o, w, cs, h, hl => by
    have hl' : o + (r.length + 1) ≤ cs.size := by simpa using hl
    obtain ⟨cs', b1, b2, b3, b4, b5⟩ := Blk.setCells r (o + 1) (w.setCell ⟨g, o, none⟩ v) (cs.setIfInBounds o v) (h.set_ o v) (by simp; omega)
    refine ⟨cs', b1, by simpa using b2, ?_, ?_, grown_trans (setCell_grown w ⟨g, o, none⟩ v) b5⟩
    · intro j hj
      cases j with
      | zero =>
        rw [Nat.add_zero, b4 o (by omega), Array.getElem?_setIfInBounds_self_of_lt (by omega)]
        rfl
      | succ j =>
        have := b3 j (by simpa using hj)
        rw [show o + (j + 1) = o + 1 + j by omega, this]
        rfl
    · intro j hj
      rw [b4 j (by omega), Array.getElem?_setIfInBounds_ne (by omega)]
/-- 'append(v, u)', u in a row of its own. -/
theorem KL.append {P : Program} (t ty : TypeId) (i : TypeInfo) (z : Value) (bytes : Nat) (ht : P.underlying t = some (.slice E)) (hi : P.info? E = some i) (hz : i.zero = some z) (hsize : i.size = 1) (hby : i.bytes = bytes) (hzs : z.cells.size = 1)
    (h : KL w base E v xs) (u : Value) (hu : u.oneCell' = true) (ad : Addr) (c1 : Nat) (hc : w.cell? ad = some u) (h63 : xs.length + 1 ≤ maxLen) (hbytes : (xs.length + 1) * bytes ≤ 140737488355328) (hbase : base ≤ w.heap.size) :
    ∃ v' w', (Builtin.append_ #[t, t] ty #[v, .slice (some ad) 1 c1]).run P w = .ok v' w' ∧ KL w' base E v' (xs ++ [u]) ∧ Fr (· = E) w w' ∧ Below base w w' := by
  obtain ⟨A, c, rfl, h2, h3, h4⟩ := h
  have hnews : ∀ j x, [u][j]? = some x → w.cell? (ad.add j) = some x := by
    intro j x hx
    cases j with
    | zero => rw [Addr.add_zero']; simpa using hx ▸ hc
    | succ j => simp at hx
  by_cases hr : xs.length + 1 ≤ c
  · rcases h4 with ⟨_, h0⟩ | ⟨g, off, cs, rfl, a2, a3, a4, a5⟩
    · omega
    have hcell : ∀ j, j < [u].length → (w.cell? ⟨g, off + xs.length * i.size + j, none⟩).isSome = true := by
      intro j hj
      obtain rfl : j = 0 := by simpa using hj
      rw [a3.cell, hsize, Nat.mul_one, Nat.add_zero, Array.getElem?_eq_getElem (by omega)]
      rfl
    have hrun := run_append_room_cells (P := P) w t ty E i ht hi g off xs.length c ad 1 c1 [u] (by rw [hsize]; rfl) hnews (by simpa using hu) hr hcell (fun j _ => a3.frozen _)
    rw [hsize, Nat.mul_one] at hrun
    obtain ⟨cs', b1, b2, b3, b4, b5⟩ := Blk.setCells [u] (off + xs.length) w cs a3 (by simp; omega)
    refine ⟨_, _, hrun, ⟨_, c, by simp, by simpa using hr, h3, .inr ⟨g, off, cs', rfl, a2, b1, by omega, ?_⟩⟩, Fr.of_grown b5 (fun j e _ => by injection e with e; subst e; exact ⟨cs, E, (0, 0), a3, rfl⟩), ?_⟩
    · intro j hj
      by_cases hjx : j < xs.length
      · rw [b4 _ (by omega), a5 j hjx, List.getElem_append_left hjx]
      · obtain rfl : j = xs.length := by simp at hj; omega
        have := b3 0 (by simp)
        rw [Nat.add_zero] at this
        rw [this]
        simp
    · exact ⟨b5.os, b5.tape, b5.output, b5.size, fun k hk => (b5.block k (Nat.lt_of_lt_of_le hk hbase) (by intro e; injection e with e; omega))⟩
  · rcases h4 with ⟨rfl, rfl⟩ | ⟨g, off, cs, rfl, a2, a3, a4, a5⟩
    · have hx0 : xs = [] := List.eq_nil_of_length_eq_zero (by omega)
      subst hx0
      obtain ⟨v', w', hrun, r1, r2, _⟩ := run_append_own_at (P := P) w base t ty E i z 1 bytes ht hi hz hsize hby hzs (by decide) (.slice none 0 0) 0 [] (World.ownsRow_nil _ _ _ _) ad 1 c1 [u] rfl hnews (by simpa using hu) h63 hbytes hbase
      exact ⟨v', w', hrun, KL.of_own r1, Fr.of_grown r2 (fun j e => by simp [Value.ownBlock] at e), ⟨r2.os, r2.tape, r2.output, r2.size, fun k hk => r2.block k (Nat.lt_of_lt_of_le hk hbase) (by simp [Value.ownBlock])⟩⟩
    · have hold : ∀ j x, xs[j]? = some x → w.cell? ((⟨g, off, none⟩ : Addr).add j) = some x := by
        intro j x hx
        have hj : j < xs.length := by
          rcases Nat.lt_or_ge j xs.length with h | h
          · exact h
          · rw [List.getElem?_eq_none h] at hx; cases hx
        rw [add_at, a3.cell, a5 j hj]
        rw [List.getElem?_eq_getElem hj] at hx
        exact hx
      obtain ⟨v', w', hrun, r1, r2⟩ := run_append_arg_grows (P := P) w t ty E i z 1 bytes ht hi hz hsize hby hzs (by decide) ⟨g, off, none⟩ xs.length c xs (by simp) hold ad 1 c1 [u] rfl hnews (by omega) h63 hbytes
      exact ⟨v', w', hrun, KL.of_own (own_base r1 hbase), Fr.of_none r2, ⟨r2.os, r2.tape, r2.output, r2.size, fun k hk => r2.block k (Nat.lt_of_lt_of_le hk hbase) (by simp)⟩⟩
/-- 'append(v[:i], v[i+1:]...)', the cut behind i at the address B. -/
theorem KL.erase {P : Program} (t ty : TypeId) (i : TypeInfo) (ht : P.underlying t = some (.slice E)) (hi : P.info? E = some i) (hsize : i.size = 1)
    (h : KL w base E v xs) (h1 : ∀ x ∈ xs, x.oneCell' = true) (k : Nat) (hk : k + 1 < xs.length) (hbase : base ≤ w.heap.size) :
    ∃ g off c, v = .slice (some ⟨g, off, none⟩) xs.length c ∧ ∃ w', (Builtin.append_ #[t, t] ty #[.slice (some ⟨g, off, none⟩) k c, .slice (some ⟨g, off + (k + 1), none⟩) (xs.length - (k + 1)) (c - (k + 1))]).run P w = .ok (.slice (some ⟨g, off, none⟩) (xs.length - 1) c) w' ∧
      KL w' base E (.slice (some ⟨g, off, none⟩) (xs.length - 1) c) (xs.eraseIdx k) ∧ Fr (· = E) w w' ∧ Below base w w' := by
  obtain ⟨A, c, rfl, h2, h3, h4⟩ := h
  rcases h4 with ⟨_, h0⟩ | ⟨g, off, cs, rfl, a2, a3, a4, a5⟩
  · omega
  refine ⟨g, off, c, rfl, ?_⟩
  have hnl : (xs.drop (k + 1)).length = xs.length - (k + 1) := by simp
  have hnews : ∀ j u, (xs.drop (k + 1))[j]? = some u → w.cell? ((⟨g, off + (k + 1), none⟩ : Addr).add j) = some u := by
    intro j u hu
    rw [List.getElem?_drop] at hu
    have hj : k + 1 + j < xs.length := by
      rcases Nat.lt_or_ge (k + 1 + j) xs.length with h | h
      · exact h
      · rw [List.getElem?_eq_none h] at hu; cases hu
    rw [add_at, a3.cell, show off + (k + 1) + j = off + (k + 1 + j) by omega, a5 _ hj]
    rw [List.getElem?_eq_getElem hj] at hu
    exact hu
  have hrun := run_append_room_cells (P := P) w t ty E i ht hi g off k c ⟨g, off + (k + 1), none⟩ (xs.length - (k + 1)) (c - (k + 1)) (xs.drop (k + 1)) (by rw [hsize, hnl, Nat.mul_one]) hnews (fun u hu => h1 u (List.mem_of_mem_drop hu)) (by omega)
    (fun j hj => by rw [a3.cell, hsize, Nat.mul_one, Array.getElem?_eq_getElem (by rw [hnl] at hj; omega)]; rfl) (fun j _ => a3.frozen _)
  rw [hsize, Nat.mul_one, show k + (xs.length - (k + 1)) = xs.length - 1 by omega] at hrun
  obtain ⟨cs', b1, b2, b3, b4, b5⟩ := Blk.setCells (xs.drop (k + 1)) (off + k) w cs a3 (by rw [hnl]; omega)
  have hel : (xs.eraseIdx k).length = xs.length - 1 := by rw [List.length_eraseIdx, if_pos (by omega)]
  refine ⟨_, hrun, ⟨_, c, by rw [hel], by omega, h3, .inr ⟨g, off, cs', rfl, a2, b1, by omega, ?_⟩⟩, Fr.of_grown b5 (fun j e _ => by injection e with e; subst e; exact ⟨cs, E, (0, 0), a3, rfl⟩), ⟨b5.os, b5.tape, b5.output, b5.size, fun q hq => (b5.block q (Nat.lt_of_lt_of_le hq hbase) (by intro e; injection e with e; omega))⟩⟩
  intro j hj
  rw [List.getElem_eraseIdx]
  by_cases hjk : j < k
  · rw [dif_pos hjk, b4 _ (by omega)]
    exact a5 j (by omega)
  · rw [dif_neg hjk]
    have := b3 (j - k) (by rw [hnl]; omega)
    rw [show off + j = off + k + (j - k) by omega, this]
    congr 1
    rw [List.getElem_drop]
    congr 1
    omega
/-- 'v[1:]', 'v[:k]'. -/
theorem KL.tail (x : Value) {A : Option Addr} {c n : Nat} (h : KL w base E (.slice A n c) (x :: xs)) : ∃ g off, A = some ⟨g, off, none⟩ ∧ n = xs.length + 1 ∧ KL w base E (.slice (if c = 1 then some ⟨g, off, none⟩ else some ⟨g, off + 1, none⟩) (n - 1) (c - 1)) xs := by
  obtain ⟨A', c', he, h2, h3, h4⟩ := h
  injection he with e1 e2 e3
  subst e1
  subst e2
  subst e3
  have h2' : xs.length + 1 ≤ c := by simpa using h2
  rcases h4 with ⟨_, h0⟩ | ⟨g, off, cs, rfl, a2, a3, a4, a5⟩
  · omega
  refine ⟨g, off, rfl, by simp, ⟨(if c = 1 then some ⟨g, off, none⟩ else some ⟨g, off + 1, none⟩), c - 1, by rw [List.length_cons, Nat.add_sub_cancel], by omega, by omega, ?_⟩⟩
  right
  by_cases hc : c = 1
  · have hx0 : xs = [] := List.eq_nil_of_length_eq_zero (by omega)
    subst hx0
    exact ⟨g, off, cs, by rw [if_pos hc], a2, a3, by omega, fun j hj => absurd hj (by simp)⟩
  · refine ⟨g, off + 1, cs, by rw [if_neg hc], a2, a3, by omega, fun j hj => ?_⟩
    have := a5 (j + 1) (by simpa using hj)
    rw [show off + 1 + j = off + (j + 1) by omega, this]
    rfl
theorem KL.take {A : Option Addr} {c n : Nat} (h : KL w base E (.slice A n c) xs) (k : Nat) (hk : k ≤ xs.length) : KL w base E (.slice A k c) (xs.take k) := by
  obtain ⟨A', c', he, h2, h3, h4⟩ := h
  injection he with e1 e2 e3
  subst e1
  subst e2
  subst e3
  have hl : (xs.take k).length = k := by rw [List.length_take]; omega
  refine ⟨A, c, by rw [hl], by omega, h3, ?_⟩
  rcases h4 with h4 | ⟨g, off, cs, rfl, a2, a3, a4, a5⟩
  · exact .inl h4
  · refine .inr ⟨g, off, cs, rfl, a2, a3, a4, fun j hj => ?_⟩
    rw [List.getElem_take]
    exact a5 j (by rw [hl] at hj; omega)
/-- An append whose run is known. -/
theorem wpList_append_run {P : Program} {ops : Array Oper} {rest : List Oper} {o : Oper} {a : Act} {Q : Exit → Act → World → Prop} {w w' : World} {v' : Value} (hgd : o.guard = none) (s x : Operand) (t : TypeId)
    (ho : o.op = .call { callee := .builtin .append, args := #[s, x], argTypes := #[t, t] }) (v u : Value) (hs : a.eval s = v) (hx : a.eval x = u) (hrun : (Builtin.append_ #[t, t] o.type #[v, u]).run P w = .ok v' w')
    (h : wpList P ops Q rest (a.put o.dst v') w') : wpList P ops Q (o :: rest) a w :=
  wpList_plain hgd fun K hK => by
    unfold Oper.wp execOp
    simp only [ho, resolve, invoke, builtin, Sem.run_bind, Sem.run_pure, Result.andThen_ok, List.map_toArray, List.map_cons, List.map_nil, hs, hx, hrun]
    exact hK _ _ h
end
end Go.Proofs.YtlbnemnadegapaaDoor.Ky
