/- A map with texts as keys that holds a list of pairs: an assignment of a new key, a look, a range; the conditions are on what lies in memory. -/
import Derived.Test.YtlbnemnadegapaaDoorNqBi
import Derived.MapFrom
import Derived.Maps.RangeRun
import Derived.Maps.Range
set_option linter.unusedVariables false
set_option linter.unusedSimpArgs false
namespace Go.Proofs.YtlbnemnadegapaaDoor.Nq
open Go.RowKit Go.Proofs.YtlbnemnadegapaaDoor.K
open Go.MapKept
def pr (p : ByteArray × Value) : Value × Value := (.string p.1, p.2)
def MapL (w : World) (m : Nat) (L : List (ByteArray × Value)) : Prop := ∃ es c, w.heap[m]? = some (.map es c) ∧ Stamped es c ∧ es.toList.map (fun e => (e.key, e.val)) = L.map pr
theorem MapL.lt {w : World} {m : Nat} {L : List (ByteArray × Value)} (h : MapL w m L) : m < w.heap.size := by
  obtain ⟨es, c, h, _⟩ := h
  exact (Array.getElem?_eq_some_iff.1 h).1
theorem MapL.grown {w w' : World} {m : Nat} {L : List (ByteArray × Value)} {r : Option Nat} (h : MapL w m L) (hg : w.grownBy w' r) (hne : some m ≠ r) : MapL w' m L := by
  have hl := h.lt
  obtain ⟨es, c, h, hk⟩ := h
  exact ⟨es, c, (hg.block m hl hne).trans h, hk⟩
theorem MapL.below {w w' : World} {m B : Nat} {L : List (ByteArray × Value)} (h : MapL w m L) (hb : Below B w w') (hB : m < B) : MapL w' m L := by
  obtain ⟨es, c, h, hk⟩ := h
  exact ⟨es, c, (hb.block m hB).trans h, hk⟩
theorem MapL.ne {w : World} {m g : Nat} {L : List (ByteArray × Value)} {T : TypeId} {cs : Array Value} (h : MapL w m L) (hb : Blk w g T cs) : g ≠ m := by
  rintro rfl
  obtain ⟨es, c, h, _⟩ := h
  unfold Blk at hb
  rw [hb] at h
  cases h
theorem MapL.new (w : World) : MapL (w.alloc (.map #[] 0)) w.heap.size [] := ⟨_, _, (heap_alloc w _).1, stamped_empty 0, rfl⟩
theorem MapL.mem {es : Array MapEntry} {L : List (ByteArray × Value)} (h : es.toList.map (fun e => (e.key, e.val)) = L.map pr) (x : MapEntry) (hx : x ∈ es.toList) : ∃ p ∈ L, x.key = .string p.1 ∧ x.val = p.2 := by
  have : (x.key, x.val) ∈ L.map pr := by rw [← h]; exact List.mem_map.2 ⟨x, hx, rfl⟩
  obtain ⟨p, hp, e⟩ := List.mem_map.1 this
  injection e with e1 e2
  exact ⟨p, hp, e1.symm, e2.symm⟩
theorem MapL.keys {es : Array MapEntry} {L : List (ByteArray × Value)} (h : es.toList.map (fun e => (e.key, e.val)) = L.map pr) : ∀ x ∈ es.toList, IsKey .string x.key := by
  intro x hx
  obtain ⟨p, _, e, _⟩ := MapL.mem h x hx
  rw [e]; trivial
def lookL (L : List (ByteArray × Value)) (s : ByteArray) : Option Value := (L.find? fun p => decide (p.1 = s)).map (·.2)
theorem findNow_list (s : ByteArray) : ∀ (l : List MapEntry) (L : List (ByteArray × Value)) (i : Nat), l.map (fun e => (e.key, e.val)) = L.map pr →
    (lookL L s = none ∧ Instr.findNow .string (.string s) l i = some none) ∨ ∃ j v, lookL L s = some v ∧ Instr.findNow .string (.string s) l i = some (some (j, v))
  | [], [], i, _ => .inl ⟨rfl, rfl⟩
  | [], _ :: _, _, h => by cases h
  | _ :: _, [], _, h => by cases h
  | e :: l, p :: L, i, h => by
    injection h with h1 h2
    injection h1 with hk hv
    obtain ⟨r, hr, hiff⟩ := sameNow_of_keys (d := .string) (a := .string s) (b := .string p.1) trivial trivial
    rw [← hk] at hr
    cases r with
    | true =>
      have e1 : p.1 = s := by have := hiff.1 rfl; injection this with this; exact this.symm
      exact .inr ⟨i, p.2, by simp [lookL, e1], by simp [Instr.findNow, hr, hv]⟩
    | false =>
      have e1 : p.1 ≠ s := fun q => by have := hiff.2 (by rw [q]); cases this
      rcases findNow_list s l L (i + 1) h2 with ⟨a, b⟩ | ⟨j, v, a, b⟩
      · exact .inl ⟨by simpa [lookL, e1] using a, by simp [Instr.findNow, hr, b]⟩
      · exact .inr ⟨j, v, by simpa [lookL, e1] using a, by simp [Instr.findNow, hr, b]⟩
theorem lookL_none {L : List (ByteArray × Value)} {s : ByteArray} : lookL L s = none ↔ ∀ p ∈ L, p.1 ≠ s := by simp [lookL]
section
variable {P : Program} {mty kt et : TypeId}
theorem run_add (hm : P.underlying mty = some (.map kt et)) (hd : P.underlying kt = some .string) (W : World) (m : Nat) (L : List (ByteArray × Value)) (h : MapL W m L) (s : ByteArray) (v : Value) (hn : ∀ p ∈ L, p.1 ≠ s) :
    ∃ W', Sem.run P (Instr.mapUpdate mty (.map (some m)) (.string s) v) W = .ok () W' ∧ MapL W' m (L ++ [(s, v)]) ∧ W.grownBy W' (some m) := by
  obtain ⟨es, c, hb, hst, hl⟩ := h
  have hk : IsKey .string (.string s) := trivial
  obtain ⟨r, hr⟩ : ∃ r, Sem.run P (Instr.mapUpdate mty (.map (some m)) (.string s) v) W = r := ⟨_, rfl⟩
  have hr0 := hr
  rcases findNow_list s es.toList L 0 hl with ⟨_, h1⟩ | ⟨j, e, h1, _⟩
  · simp [Instr.mapUpdate, run_underlying hm, MapKept.run_getObj_map hb, run_checkKey hd hk, run_findKey hd h1, MapKept.run_setObj_map _ hb, Result.andThen] at hr
    subst hr
    refine ⟨_, hr0, ⟨_, _, (heap_set hb).1, stamped_push hst ?_, ?_⟩, ⟨rfl, rfl, rfl, by simp, fun k _ hne => (heap_set hb).2 k (fun e => hne (by rw [e]))⟩⟩
    · intro x hx e
      obtain ⟨p, hp, e1, _⟩ := MapL.mem hl x hx
      rw [e1] at e
      injection e with e
      exact hn p hp e
    · simp [hl, pr]
  · rw [lookL_none.2 hn] at h1; cases h1
theorem run_look (hm : P.underlying mty = some (.map kt et)) (hd : P.underlying kt = some .string) (W : World) (m : Nat) (L : List (ByteArray × Value)) (h : MapL W m L) (s : ByteArray) (z : Value) (hz : (zeroValue et).run P W = .ok z W) :
    Sem.run P (Instr.lookup mty (.map (some m)) (.string s) true) W = .ok (.tuple #[(lookL L s).getD z, .bool (lookL L s).isSome]) W := by
  obtain ⟨es, c, hb, hst, hl⟩ := h
  have hk : IsKey .string (.string s) := trivial
  rcases findNow_list s es.toList L 0 hl with ⟨h0, h1⟩ | ⟨j, e, h0, h1⟩
  · rw [h0]
    simp [Instr.lookup, run_underlying hm, MapKept.run_getObj_map hb, run_checkKey hd hk, run_findKey hd h1, hz, Result.andThen]
  · rw [h0]
    simp [Instr.lookup, run_underlying hm, MapKept.run_getObj_map hb, run_checkKey hd hk, run_findKey hd h1, Result.andThen]
end
end Go.Proofs.YtlbnemnadegapaaDoor.Nq
