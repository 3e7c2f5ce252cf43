/- Walks of a key set's Clear, Set and Remove of private fields; the conditions are on what lies in memory. -/
import Derived.Test.YtlbnemnadegapaaDoorKySet2
import Derived.Maps.OwnOps
set_option linter.unusedVariables false
set_option linter.unusedSimpArgs false
namespace Go.Proofs.YtlbnemnadegapaaDoor.Ky
open Go.RowKit Go.Proofs.YtlbnemnadegapaaDoor.K Go.Proofs.YtlbnemnadegapaaDoor.Nm
theorem wpList_delete_run {P : Program} {ops : Array Oper} {rest : List Oper} {o : Oper} {a : Act} {Q : Exit → Act → World → Prop} {w w' : World} (hgd : o.guard = none) (s x : Operand) (t k : TypeId)
    (ho : o.op = .call { callee := .builtin .delete, args := #[s, x], argTypes := #[t, k] }) (v u : Value) (hs : a.eval s = v) (hx : a.eval x = u) (hrun : (Builtin.delete_ #[t, k] o.type #[v, u]).run P w = .ok (.tuple #[]) w')
    (h : wpList P ops Q rest (a.put o.dst (.tuple #[])) w') : wpList P ops Q (o :: rest) a w :=
  wpList_plain hgd fun K hK => by
    unfold Oper.wp execOp
    simp only [ho, resolve, invoke, builtin, Sem.run_bind, Sem.run_pure, Result.andThen_ok, List.map_toArray, List.map_cons, List.map_nil, hs, hx, hrun]
    exact hK _ _ h
section
variable {Q : ByteArray → Prop} {base g : Nat} {w w' : World} {S : List Nat}
set_option maxRecDepth 100000 in
set_option maxHeartbeats 2000000 in
theorem Clear_calls (h : SetAt Q base w g S) (hbase : base ≤ w.heap.size) :
    Calls Tryd.prog 123 #[.pointer (some ⟨g, 0, none⟩)] w (Did Q base g true [] w) := by
  obtain ⟨v, m, hK, hM, hbg, hbm⟩ := h
  have hmm := @run_makeMap Tryd.prog
  obtain ⟨c0, c1⟩ := hK.cells
  have f0 := hK.1.frozen 0
  have f1 := hK.1.frozen 1
  have hb1 := hK.1.set_ 0 (.slice none 0 0)
  have hb2 := hb1.alloc (.map #[] 0)
  have hb3 := hb2.set_ 1 (.map (some w.heap.size))
  have hsz : (w.setCell ⟨g, 0, none⟩ (.slice none 0 0)).heap.size = w.heap.size := by simp [World.setCell]
  have hM1 : MapN Q ((w.setCell ⟨g, 0, none⟩ (.slice none 0 0)).alloc (.map #[] 0)) w.heap.size := by rw [← hsz]; exact MapN.new _
  have hset : SetAt Q base (((w.setCell ⟨g, 0, none⟩ (.slice none 0 0)).alloc (.map #[] 0)).setCell ⟨g, 1, none⟩ (.map (some w.heap.size))) g [] :=
    ⟨_, _, ⟨hb3, KL.nil _ _ _⟩, hM1.fr (Fr.setCell (bad := badSK) hb2 (.inl rfl) _), hbg, hbase⟩
  have hfw : Fw base w (((w.setCell ⟨g, 0, none⟩ (.slice none 0 0)).alloc (.map #[] 0)).setCell ⟨g, 1, none⟩ (.map (some w.heap.size))) :=
    Fw.of_fr ((((Below.refl base w).setCell (by show base ≤ g; exact hbg) _).alloc (by rw [hsz]; exact hbase) _).setCell (by show base ≤ g; exact hbg) _)
      (((Fr.setCell (bad := badSK) hK.1 (.inl rfl) _).trans (Fr.alloc _ _)).trans (Fr.setCell (bad := badSK) hb2 (.inl rfl) _))
  have c3 : ((w.setCell ⟨g, 0, none⟩ (.slice none 0 0)).alloc (.map #[] 0)).cell? ⟨g, 1, none⟩ = some (.map (some m)) := by rw [hb2.cell]; rfl
  have f3 := hb2.frozen 1
  have HS := Lib.hid (And.intro hset hfw)
  clear hK hM hb1 hb2 hb3 hM1 hset hfw
  go_enter Tryd.func123, Tryd.ntmps123
  go_wp2
  go_ret
  exact ⟨_, rfl, .inl ⟨rfl, rfl⟩, HS.out.1, HS.out.2⟩
theorem lit_ne {s : ByteArray} {l : List UInt8} (h : s ≠ ⟨l.toArray⟩) : (s.toList == l) = false := by
  rw [beq_eq_false_iff_ne]
  intro e
  rw [ByteArray.toList_eq] at e
  exact h (ByteArray.ext (by rw [← e]))
def nKeys : ByteArray := ⟨#[107, 101, 121, 115]⟩
set_option maxRecDepth 100000 in
set_option maxHeartbeats 2000000 in
theorem Set_calls (h : SetAt Q base w g S) (s : ByteArray) (u : Value) (hs : Q s) (hne : s ≠ nKeys) (hbase : base ≤ w.heap.size) :
    Calls Tryd.prog 133 #[.pointer (some ⟨g, 0, none⟩), .string s, u] w (Did Q base g true S w) := by
  obtain ⟨v, m, hK, hM, hbg, hbm⟩ := h
  obtain ⟨c0, c1⟩ := hK.cells
  obtain ⟨w', hrun, hM', hg⟩ := run_put (mty := 139) Tryd.underlying139 Tryd.underlying9 hM s u hs
  have hl : (s.toList == [107, 101, 121, 115]) = false := lit_ne hne
  have hmg : g ≠ m := by
    rintro rfl
    obtain ⟨L, ⟨es, c, a1, _⟩, _⟩ := hM
    have := hK.1
    unfold Blk at this
    rw [this] at a1
    cases a1
  have hset : SetAt Q base w' g S := ⟨v, m, ⟨hK.1.grown hg (by intro e; injection e with e; exact hmg e), hK.2.grown hg (fun k cs hk _ e => by
    injection e with e
    subst e
    obtain ⟨L, ⟨es, c, a1, _⟩, _⟩ := hM
    unfold Blk at hk
    rw [hk] at a1
    cases a1)⟩, hM', hbg, hbm⟩
  have hfw : Fw base w w' := ⟨⟨hg.os, hg.tape, hg.output, hg.size, fun k hk => hg.block k (Nat.lt_of_lt_of_le hk hbase) (by intro e; injection e with e; omega)⟩, fun j T cs hj _ => hj.grown hg (by
    intro e
    injection e with e
    subst e
    obtain ⟨L, ⟨es, c, a1, _⟩, _⟩ := hM
    unfold Blk at hj
    rw [hj] at a1
    cases a1)⟩
  have HS := Lib.hid (And.intro hset hfw)
  clear hK hM hM' hset hfw hg
  go_enter Tryd.func133, Tryd.ntmps133
  go_wp2
  go_ret
  exact ⟨_, rfl, .inl ⟨rfl, rfl⟩, HS.out.1, HS.out.2⟩
set_option maxRecDepth 100000 in
set_option maxHeartbeats 2000000 in
theorem Remove_calls (h : SetAt Q base w g S) (s : ByteArray) (hbase : base ≤ w.heap.size) :
    Calls Tryd.prog 131 #[.pointer (some ⟨g, 0, none⟩), .string s] w (Did Q base g true S w) := by
  obtain ⟨v, m, hK, hM, hbg, hbm⟩ := h
  obtain ⟨c0, c1⟩ := hK.cells
  obtain ⟨w', hrun, hM', hg⟩ := run_del (mty := 139) Tryd.underlying139 Tryd.underlying9 0 hM s
  have hmg : g ≠ m := by
    rintro rfl
    obtain ⟨L, ⟨es, c, a1, _⟩, _⟩ := hM
    have := hK.1
    unfold Blk at this
    rw [this] at a1
    cases a1
  have hset : SetAt Q base w' g S := ⟨v, m, ⟨hK.1.grown hg (by intro e; injection e with e; exact hmg e), hK.2.grown hg (fun k cs hk _ e => by
    injection e with e
    subst e
    obtain ⟨L, ⟨es, c, a1, _⟩, _⟩ := hM
    unfold Blk at hk
    rw [hk] at a1
    cases a1)⟩, hM', hbg, hbm⟩
  have hfw : Fw base w w' := ⟨⟨hg.os, hg.tape, hg.output, hg.size, fun k hk => hg.block k (Nat.lt_of_lt_of_le hk hbase) (by intro e; injection e with e; omega)⟩, fun j T cs hj _ => hj.grown hg (by
    intro e
    injection e with e
    subst e
    obtain ⟨L, ⟨es, c, a1, _⟩, _⟩ := hM
    unfold Blk at hj
    rw [hj] at a1
    cases a1)⟩
  have HS := Lib.hid (And.intro hset hfw)
  have HR := Lib.hid hrun
  clear hK hM hM' hset hfw hg hrun
  go_enter Tryd.func131, Tryd.ntmps131
  go_wp2_with (at_delete; refine wpList_delete_run rfl (.tmp 8) (.tmp 9) 139 9 rfl _ _ rfl rfl HR.out ?_)
  go_ret
  exact ⟨_, rfl, .inl ⟨rfl, rfl⟩, HS.out.1, HS.out.2⟩
end
end Go.Proofs.YtlbnemnadegapaaDoor.Ky
