/- What a symmetric key tells of its fields, as texts; the conditions are on what lies in memory. -/
import Derived.Test.YtlbnemnadegapaaDoorKfLib
set_option linter.unusedVariables false
set_option linter.unusedSimpArgs false
namespace Go.Proofs.YtlbnemnadegapaaDoor.Kf
open Go.RowKit Go.Proofs.YtlbnemnadegapaaDoor.K Go.Proofs.YtlbnemnadegapaaDoor.Nm Go.Proofs.YtlbnemnadegapaaDoor.Ky
open Go.Proofs.YtlbnemnadegapaaDoor.Nq (three)
theorem AlgO.some_ {a : Option ByteArray} {v : Option Value} (h : AlgO a v) : v.isSome = a.isSome := by
  cases a <;> cases v <;> first | rfl | exact h.elim
section
variable {w w' : World} {x m o n : Nat} {t : FT} {oc : List UInt8}
theorem OpsO.some_ {l : Option (List ByteArray)} {v : Option Value} (h : OpsO w l v) : v.isSome = l.isSome := by
  cases l <;> cases v <;> first | rfl | exact h.elim
theorem KeyID_t (h : FKT w x m t o n oc) : Calls Tryd.prog 104 #[.pointer (some ⟨x, 0, none⟩)] w fun e w' => e = .returned (.tuple #[.string (t.kid.getD ⟨#[]⟩), .bool t.kid.isSome]) ∧ w = w' := by
  obtain ⟨f, h1, h2, h3, h4, h5, h6, h7⟩ := h
  have e1 : vS f.kid = .string (t.kid.getD ⟨#[]⟩) := by rw [h5]; cases t.kid <;> rfl
  have e2 : f.kid.isSome = t.kid.isSome := by rw [h5]; cases t.kid <;> rfl
  have := KeyID_calls h1
  rwa [e1, e2] at this
theorem KeyUsage_t (h : FKT w x m t o n oc) : Calls Tryd.prog 107 #[.pointer (some ⟨x, 0, none⟩)] w fun e w' => e = .returned (.tuple #[.string (t.use.getD ⟨#[]⟩), .bool t.use.isSome]) ∧ w = w' := by
  obtain ⟨f, h1, h2, h3, h4, h5, h6, h7⟩ := h
  have e1 : f.use.getD (.string ⟨#[]⟩) = .string (t.use.getD ⟨#[]⟩) := by rw [h7]; cases t.use <;> rfl
  have e2 : f.use.isSome = t.use.isSome := by rw [h7]; cases t.use <;> rfl
  have := KeyUsage_calls h1
  rwa [e1, e2] at this
theorem KeyOps_t (h : FKT w x m t o n oc) : Calls Tryd.prog 105 #[.pointer (some ⟨x, 0, none⟩)] w fun e w' => ∃ A c, e = .returned (.tuple #[.slice A (t.ops.getD []).length c, .bool t.ops.isSome]) ∧ SLt w A (t.ops.getD []).length (t.ops.getD []) ∧ w = w' := by
  obtain ⟨f, h1, h2, h3, h4, h5, h6, h7⟩ := h
  have := KeyOps_calls h1
  refine this.mono ?_
  rintro e w' ⟨rfl, rfl⟩
  obtain ⟨alg, kid, ops, use⟩ := f
  obtain ⟨ta, tk, tp, tu⟩ := t
  simp only at h6 ⊢
  cases tp with
  | none =>
    obtain rfl := ops_none h6
    exact ⟨none, 0, rfl, Reads.none_, trivial⟩
  | some l => cases ops with
    | none => exact h6.elim
    | some v =>
      obtain ⟨g, cs, rfl, hb, hf⟩ := h6
      exact ⟨_, _, rfl, hf.reads rfl hb, trivial⟩
theorem Algorithm_t (h : FKT w x m t o n oc) : Calls Tryd.prog 100 #[.pointer (some ⟨x, 0, none⟩)] w fun e w' => ((t.alg = none ∧ e = .returned (.tuple #[.nilIface, .bool false])) ∨ ∃ s d y, t.alg = some s ∧ e = .returned (.tuple #[.iface 156 (three s d y), .bool true])) ∧ w = w' := by
  obtain ⟨f, h1, h2, h3, h4, h5, h6, h7⟩ := h
  have := Algorithm_calls h1
  refine this.mono ?_
  rintro e w' ⟨rfl, rfl⟩
  obtain ⟨alg, kid, ops, use⟩ := f
  obtain ⟨ta, tk, tp, tu⟩ := t
  simp only at h4 ⊢
  refine ⟨?_, trivial⟩
  cases ta <;> cases alg
  · exact .inl ⟨rfl, rfl⟩
  · exact h4.elim
  · exact h4.elim
  · obtain ⟨d, y, rfl⟩ := h4
    exact .inr ⟨_, d, y, rfl, rfl⟩
theorem Has_kid_t (h : FKT w x m t o n oc) : Calls Tryd.prog 103 #[.pointer (some ⟨x, 0, none⟩), .string ⟨#[107, 105, 100]⟩] w fun e w' => e = .returned (.bool t.kid.isSome) ∧ w = w' := by
  obtain ⟨f, h1, h2, h3, h4, h5, h6, h7⟩ := h
  have e2 : f.kid.isSome = t.kid.isSome := by rw [h5]; cases t.kid <;> rfl
  have := Has_kid h1
  rwa [e2] at this
theorem Has_use_t (h : FKT w x m t o n oc) : Calls Tryd.prog 103 #[.pointer (some ⟨x, 0, none⟩), .string ⟨#[117, 115, 101]⟩] w fun e w' => e = .returned (.bool t.use.isSome) ∧ w = w' := by
  obtain ⟨f, h1, h2, h3, h4, h5, h6, h7⟩ := h
  have e2 : f.use.isSome = t.use.isSome := by rw [h7]; cases t.use <;> rfl
  have := Has_use h1
  rwa [e2] at this
theorem Has_ops_t (h : FKT w x m t o n oc) : Calls Tryd.prog 103 #[.pointer (some ⟨x, 0, none⟩), .string ⟨#[107, 101, 121, 95, 111, 112, 115]⟩] w fun e w' => e = .returned (.bool t.ops.isSome) ∧ w = w' := by
  obtain ⟨f, h1, h2, h3, h4, h5, h6, h7⟩ := h
  have := Has_ops h1
  rwa [h6.some_] at this
theorem Has_alg_t (h : FKT w x m t o n oc) : Calls Tryd.prog 103 #[.pointer (some ⟨x, 0, none⟩), .string ⟨#[97, 108, 103]⟩] w fun e w' => e = .returned (.bool t.alg.isSome) ∧ w = w' := by
  obtain ⟨f, h1, h2, h3, h4, h5, h6, h7⟩ := h
  have := Has_alg h1
  rwa [h4.some_] at this
def FT.names (t : FT) : List ByteArray := nmF t.alg.isSome t.kid.isSome t.ops.isSome t.use.isSome
theorem Keys_t (h : FKT w x m t o n oc) : Calls Tryd.prog 108 #[.pointer (some ⟨x, 0, none⟩)] w fun e w' => ∃ A c', e = .returned (.slice A t.names.length c') ∧ w'.ownsRow w.heap.size 9 1 (.slice A t.names.length c') t.names.length (t.names.map Value.string) ∧ Below w.heap.size w w' := by
  obtain ⟨f, h1, h2, h3, h4, h5, h6, h7⟩ := h
  have e1 : f.kid.isSome = t.kid.isSome := by rw [h5]; cases t.kid <;> rfl
  have e2 : f.use.isSome = t.use.isSome := by rw [h7]; cases t.use <;> rfl
  have := KKeys_calls h1
  rwa [h4.some_, e1, h6.some_, e2] at this
theorem Octets_t (h : FKT w x m t o n oc) : Calls Tryd.prog 109 #[.pointer (some ⟨x, 0, none⟩)] w fun e w' => e = .returned (.tuple #[.slice (some ⟨o, 0, none⟩) n n, .bool true]) ∧ w = w' := by
  obtain ⟨f, h1, _⟩ := h
  exact Octets_calls h1
set_option maxRecDepth 100000 in
theorem String_calls (w : World) (s : ByteArray) (d y : Bool) : Calls Tryd.prog 73 #[three s d y] w fun e w' => e = .returned (.string s) ∧ Below w.heap.size w w' := by
  unfold three
  go_enter Tryd.func73, Tryd.ntmps73
  go_wp2
  go_ret
  exact ⟨rfl, below_alloc' (Below.refl _ _) _⟩
end

/-- The next operation is a store: a quick look. -/
theorem st_at {P : Program} {ops : Array Oper} {rest : List Oper} {d : Option Tmp} {ty type : TypeId} {pos : String} {after : Array Edge} {guard : Option (Nat × Bool)} {y : Operand} {a : Act} {w : World} {Q : Exit → Act → World → Prop} (x : Operand)
    (h : wpList P ops Q (⟨d, .store ty x y, type, pos, after, guard⟩ :: rest) a w) : wpList P ops Q (⟨d, .store ty x y, type, pos, after, guard⟩ :: rest) a w := h
set_option maxRecDepth 100000 in
theorem put_one {T : TypeId} {ops : Array Oper} {rest : List Oper} {o : Oper} {a : Act} {w : World} {Q : Exit → Act → World → Prop} {ty : TypeId} (hgd : o.guard = none) (x y : Operand) (ho : o.op = .store ty x y) (hz : ∀ W : World, Sem.run Tryd.prog (sizeOf ty) W = .ok 1 W)
    (g i : Nat) (hx : a.eval x = .pointer (some ⟨g, i, none⟩)) (v : Value) (hv : (∃ s, v = .string s) ∨ (∃ b, v = .bool b) ∨ ∃ A n c, v = .slice A n c) (hy : a.eval y = v) (cs : Array Value) (hb : Blk w g T cs) (hi : i < cs.size)
    (h : ∀ w', Blk w' g T (cs.setIfInBounds i v) → (∀ B w0, B ≤ g → Below B w0 w → Below B w0 w') → Fr (· = T) w w' → wpList Tryd.prog ops Q rest (a.put o.dst undef) w') : wpList Tryd.prog ops Q (o :: rest) a w := by
  refine wpList_plain hgd fun K hK => ?_
  have hf := hb.frozen i
  have hc := hb.cell i
  rw [Array.getElem?_eq_getElem hi] at hc
  have hq := h _ (hb.set_ i v) (fun B w0 hB hw => hw.setCell hB v) (Fr.setCell (bad := (· = T)) hb rfl v)
  have hk := hK _ _ hq
  clear hK hq h
  unfold Oper.wp execOp
  simp only [ho, hx, hy]
  rcases hv with ⟨s, rfl⟩ | ⟨b, rfl⟩ | ⟨A, n, c, rfl⟩ <;> (go_simp; exact hk)

set_option maxRecDepth 100000 in
theorem put_four {T : TypeId} {ops : Array Oper} {rest : List Oper} {o : Oper} {a : Act} {w : World} {Q : Exit → Act → World → Prop} {ty : TypeId} (hgd : o.guard = none) (x y : Operand) (ho : o.op = .store ty x y) (hz : ∀ W : World, Sem.run Tryd.prog (sizeOf ty) W = .ok 4 W)
    (g i : Nat) (hx : a.eval x = .pointer (some ⟨g, i, none⟩)) (b0 b1 b2 b3 : Bool) (hy : a.eval y = .agg #[.bool b0, .bool b1, .bool b2, .bool b3]) (cs : Array Value) (hb : Blk w g T cs) (hi : i + 3 < cs.size)
    (h : ∀ w', Blk w' g T ((((cs.setIfInBounds i (.bool b0)).setIfInBounds (i + 1) (.bool b1)).setIfInBounds (i + 2) (.bool b2)).setIfInBounds (i + 3) (.bool b3)) → (∀ B w0, B ≤ g → Below B w0 w → Below B w0 w') → Fr (· = T) w w' → wpList Tryd.prog ops Q rest (a.put o.dst undef) w') : wpList Tryd.prog ops Q (o :: rest) a w := by
  refine wpList_plain hgd fun K hK => ?_
  have hf0 := hb.frozen i
  have hf1 := hb.frozen (i + 1)
  have hf2 := hb.frozen (i + 2)
  have hf3 := hb.frozen (i + 3)
  have hc0 := hb.cell i
  have hc1 := hb.cell (i + 1)
  have hc2 := hb.cell (i + 2)
  have hc3 := hb.cell (i + 3)
  rw [Array.getElem?_eq_getElem (by omega)] at hc0 hc1 hc2 hc3
  have hq := h _ ((((hb.set_ i (.bool b0)).set_ (i + 1) (.bool b1)).set_ (i + 2) (.bool b2)).set_ (i + 3) (.bool b3)) (fun B w0 hB hw => (((hw.setCell (p := ⟨g, i, none⟩) hB _).setCell (p := ⟨g, i + 1, none⟩) hB _).setCell (p := ⟨g, i + 2, none⟩) hB _).setCell (p := ⟨g, i + 3, none⟩) hB _) ((((Fr.setCell (bad := (· = T)) hb rfl _).trans (Fr.setCell (bad := (· = T)) (hb.set_ i (.bool b0)) rfl _)).trans (Fr.setCell (bad := (· = T)) ((hb.set_ i (.bool b0)).set_ (i + 1) (.bool b1)) rfl _)).trans (Fr.setCell (bad := (· = T)) (((hb.set_ i (.bool b0)).set_ (i + 1) (.bool b1)).set_ (i + 2) (.bool b2)) rfl _))
  have hk := hK _ _ hq
  clear hK hq h
  unfold Oper.wp execOp
  simp only [ho, hx, hy]
  go_simp
  exact hk
end Go.Proofs.YtlbnemnadegapaaDoor.Kf
