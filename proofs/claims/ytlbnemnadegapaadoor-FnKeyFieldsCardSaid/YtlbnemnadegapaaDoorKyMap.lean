/- A map with texts as keys that holds a list of pairs: an assignment of a new key, a look, a range; the conditions are on what lies in memory. -/
import Derived.Test.YtlbnemnadegapaaDoorKyMem
import Derived.MapFrom
import Derived.Maps.RangeRun
import Derived.Maps.Range
import Derived.Maps.RangeWalk
set_option linter.unusedVariables false
set_option linter.unusedSimpArgs false
namespace Go.Proofs.YtlbnemnadegapaaDoor.Nm
open Go.RowKit Go.Proofs.YtlbnemnadegapaaDoor.K
open Go.MapKept
open Go.Proofs.YtlbnemnadegapaaDoor
def pr (p : ByteArray × Value) : Value × Value := (.string p.1, p.2)
def MapL (w : World) (m : Nat) (L : List (ByteArray × Value)) : Prop := ∃ es c, w.heap[m]? = some (.map es c) ∧ Stamped es c ∧ es.toList.map (fun e => (e.key, e.val)) = L.map pr
theorem MapL.lt {w : World} {m : Nat} {L : List (ByteArray × Value)} (h : MapL w m L) : m < w.heap.size := by
  obtain ⟨es, c, h, _⟩ := h
  exact (Array.getElem?_eq_some_iff.1 h).1
theorem MapL.grown {w w' : World} {m : Nat} {L : List (ByteArray × Value)} {r : Option Nat} (h : MapL w m L) (hg : w.grownBy w' r) (hne : some m ≠ r) : MapL w' m L := by
  have hl := h.lt
  obtain ⟨es, c, h, hk⟩ := h
  exact ⟨es, c, (hg.block m hl hne).trans h, hk⟩
theorem MapL.below {w w' : World} {m B : Nat} {L : List (ByteArray × Value)} (h : MapL w m L) (hb : Below B w w') (hB : m < B) : MapL w' m L := by
  obtain ⟨es, c, h, hk⟩ := h
  exact ⟨es, c, (hb.block m hB).trans h, hk⟩
theorem MapL.ne {w : World} {m g : Nat} {L : List (ByteArray × Value)} {T : TypeId} {cs : Array Value} (h : MapL w m L) (hb : Blk w g T cs) : g ≠ m := by
  rintro rfl
  obtain ⟨es, c, h, _⟩ := h
  unfold Blk at hb
  rw [hb] at h
  cases h
theorem MapL.new (w : World) : MapL (w.alloc (.map #[] 0)) w.heap.size [] := ⟨_, _, (heap_alloc w _).1, stamped_empty 0, rfl⟩
theorem MapL.mem {es : Array MapEntry} {L : List (ByteArray × Value)} (h : es.toList.map (fun e => (e.key, e.val)) = L.map pr) (x : MapEntry) (hx : x ∈ es.toList) : ∃ p ∈ L, x.key = .string p.1 ∧ x.val = p.2 := by
  have : (x.key, x.val) ∈ L.map pr := by rw [← h]; exact List.mem_map.2 ⟨x, hx, rfl⟩
  obtain ⟨p, hp, e⟩ := List.mem_map.1 this
  injection e with e1 e2
  exact ⟨p, hp, e1.symm, e2.symm⟩
theorem MapL.keys {es : Array MapEntry} {L : List (ByteArray × Value)} (h : es.toList.map (fun e => (e.key, e.val)) = L.map pr) : ∀ x ∈ es.toList, IsKey .string x.key := by
  intro x hx
  obtain ⟨p, _, e, _⟩ := MapL.mem h x hx
  rw [e]; trivial
def lookL (L : List (ByteArray × Value)) (s : ByteArray) : Option Value := (L.find? fun p => decide (p.1 = s)).map (·.2)
theorem findNow_list (s : ByteArray) : ∀ (l : List MapEntry) (L : List (ByteArray × Value)) (i : Nat), l.map (fun e => (e.key, e.val)) = L.map pr →
    (lookL L s = none ∧ Instr.findNow .string (.string s) l i = some none) ∨ ∃ j v, lookL L s = some v ∧ Instr.findNow .string (.string s) l i = some (some (j, v))
  | [], [], i, _ => .inl ⟨rfl, rfl⟩
  | [], _ :: _, _, h => by cases h
  | _ :: _, [], _, h => by cases h
  | e :: l, p :: L, i, h => by
    injection h with h1 h2
    injection h1 with hk hv
    obtain ⟨r, hr, hiff⟩ := sameNow_of_keys (d := .string) (a := .string s) (b := .string p.1) trivial trivial
    rw [← hk] at hr
    cases r with
    | true =>
      have e1 : p.1 = s := by have := hiff.1 rfl; injection this with this; exact this.symm
      exact .inr ⟨i, p.2, by simp [lookL, e1], by simp [Instr.findNow, hr, hv]⟩
    | false =>
      have e1 : p.1 ≠ s := fun q => by have := hiff.2 (by rw [q]); cases this
      rcases findNow_list s l L (i + 1) h2 with ⟨a, b⟩ | ⟨j, v, a, b⟩
      · exact .inl ⟨by simpa [lookL, e1] using a, by simp [Instr.findNow, hr, b]⟩
      · exact .inr ⟨j, v, by simpa [lookL, e1] using a, by simp [Instr.findNow, hr, b]⟩
theorem lookL_none {L : List (ByteArray × Value)} {s : ByteArray} : lookL L s = none ↔ ∀ p ∈ L, p.1 ≠ s := by simp [lookL]
section
variable {P : Program} {mty kt et : TypeId}
theorem run_add (hm : P.underlying mty = some (.map kt et)) (hd : P.underlying kt = some .string) (W : World) (m : Nat) (L : List (ByteArray × Value)) (h : MapL W m L) (s : ByteArray) (v : Value) (hn : ∀ p ∈ L, p.1 ≠ s) :
    ∃ W', Sem.run P (Instr.mapUpdate mty (.map (some m)) (.string s) v) W = .ok () W' ∧ MapL W' m (L ++ [(s, v)]) ∧ W.grownBy W' (some m) := by
  obtain ⟨es, c, hb, hst, hl⟩ := h
  have hk : IsKey .string (.string s) := trivial
  obtain ⟨r, hr⟩ : ∃ r, Sem.run P (Instr.mapUpdate mty (.map (some m)) (.string s) v) W = r := ⟨_, rfl⟩
  have hr0 := hr
  rcases findNow_list s es.toList L 0 hl with ⟨_, h1⟩ | ⟨j, e, h1, _⟩
  · simp [Instr.mapUpdate, run_underlying hm, MapKept.run_getObj_map hb, run_checkKey hd hk, run_findKey hd h1, MapKept.run_setObj_map _ hb, Result.andThen] at hr
    subst hr
    refine ⟨_, hr0, ⟨_, _, (heap_set hb).1, stamped_push hst ?_, ?_⟩, ⟨rfl, rfl, rfl, by simp, fun k _ hne => (heap_set hb).2 k (fun e => hne (by rw [e]))⟩⟩
    · intro x hx e
      obtain ⟨p, hp, e1, _⟩ := MapL.mem hl x hx
      rw [e1] at e
      injection e with e
      exact hn p hp e
    · simp [hl, pr]
  · rw [lookL_none.2 hn] at h1; cases h1
theorem run_look (hm : P.underlying mty = some (.map kt et)) (hd : P.underlying kt = some .string) (W : World) (m : Nat) (L : List (ByteArray × Value)) (h : MapL W m L) (s : ByteArray) (z : Value) (hz : (zeroValue et).run P W = .ok z W) :
    Sem.run P (Instr.lookup mty (.map (some m)) (.string s) true) W = .ok (.tuple #[(lookL L s).getD z, .bool (lookL L s).isSome]) W := by
  obtain ⟨es, c, hb, hst, hl⟩ := h
  have hk : IsKey .string (.string s) := trivial
  rcases findNow_list s es.toList L 0 hl with ⟨h0, h1⟩ | ⟨j, e, h0, h1⟩
  · rw [h0]
    simp [Instr.lookup, run_underlying hm, MapKept.run_getObj_map hb, run_checkKey hd hk, run_findKey hd h1, hz, Result.andThen]
  · rw [h0]
    simp [Instr.lookup, run_underlying hm, MapKept.run_getObj_map hb, run_checkKey hd hk, run_findKey hd h1, Result.andThen]
end
open Go.ChangeMaps (setBlock)
/-- Block m is a map that holds L; block r goes over it; the entries of ds have come. -/
def RangL (W : World) (m r : Nat) (L ds : List (ByteArray × Value)) : Prop :=
  ∃ es c s seen c0, W.heap[m]? = some (.map es c) ∧ Stamped es c ∧ es.toList.map (fun e => (e.key, e.val)) = L.map pr ∧ W.heap[r]? = some (.mapIter (some m) s seen c0) ∧ (∀ x ∈ es.toList, x.born < s) ∧ s ≤ c0 ∧ s = c ∧ r ≠ m ∧
    (∀ e ∈ es.toList, e.born ∈ seen ↔ ∃ p ∈ ds, e.key = .string p.1) ∧ (∀ p ∈ ds, p ∈ L) ∧ (ds.map (·.1)).Nodup
section
variable {W W' : World} {m r : Nat} {L ds : List (ByteArray × Value)}
theorem RangL.ltm (h : RangL W m r L ds) : m < W.heap.size := by
  obtain ⟨_, _, _, _, _, h, _⟩ := h
  exact (Array.getElem?_eq_some_iff.1 h).1
theorem RangL.ltr (h : RangL W m r L ds) : r < W.heap.size := by
  obtain ⟨_, _, _, _, _, _, _, _, h, _⟩ := h
  exact (Array.getElem?_eq_some_iff.1 h).1
theorem RangL.sub (h : RangL W m r L ds) : (∀ p ∈ ds, p ∈ L) ∧ (ds.map (·.1)).Nodup := by
  obtain ⟨_, _, _, _, _, _, _, _, _, _, _, _, _, _, h1, h2⟩ := h
  exact ⟨h1, h2⟩
theorem RangL.grown (h : RangL W m r L ds) {b : Option Nat} (hg : W.grownBy W' b) (hm : some m ≠ b) (hr : some r ≠ b) : RangL W' m r L ds := by
  have h1 := h.ltm
  have h2 := h.ltr
  obtain ⟨es, c, s, seen, c0, a1, a2, a3, a4, rest⟩ := h
  exact ⟨es, c, s, seen, c0, (hg.block m h1 hm).trans a1, a2, a3, (hg.block r h2 hr).trans a4, rest⟩
theorem run_range {P : Program} {mty kt et : TypeId} (hm : P.underlying mty = some (.map kt et)) (W : World) (m : Nat) (L : List (ByteArray × Value)) (h : MapL W m L) :
    ∃ W', (Instr.range mty (.map (some m))).run P W = .ok (.pointer (some ⟨W.heap.size, 0, none⟩)) W' ∧ RangL W' m W.heap.size L [] ∧ W.grownBy W' none ∧ W'.heap.size = W.heap.size + 1 := by
  have hlt := h.lt
  obtain ⟨es, c, hb, hst, hl⟩ := h
  refine ⟨_, run_range_map W mty kt et m es c hm hb, ⟨es, c, c, #[], c, ((MapKept.heap_alloc W _).2 m hlt).trans hb, hst, hl, (MapKept.heap_alloc W _).1, hst.1, Nat.le_refl _, rfl, by omega, ?_, by simp, by simp⟩, World.grownBy_alloc W _ none, by simp⟩
  intro e _
  simp
theorem RangL.next {P : Program} (h : RangL W m r L ds) (ty : TypeId) (hn : (L.map (·.1)).Nodup) :
    ((∀ p ∈ L, p ∈ ds) ∧ (Instr.next (.pointer (some ⟨r, 0, none⟩)) false ty).run P W = .ok (.tuple #[.bool false]) W) ∨
    ∃ p ∈ L, (∀ q ∈ ds, q.1 ≠ p.1) ∧ ∃ W', (Instr.next (.pointer (some ⟨r, 0, none⟩)) false ty).run P W = .ok (.tuple #[.bool true, .string p.1, p.2]) W' ∧ RangL W' m r L (ds ++ [p]) ∧ W.grownBy W' (some r) ∧
      (Instr.entry (.pointer (some ⟨r, 0, none⟩))).run P W' = .ok (.tuple #[.string p.1, p.2]) W' := by
  have hltr := h.ltr
  obtain ⟨es, c, s, seen, c0, a1, a2, a3, a4, a5, a6, a7, a8, a9, a10, a11⟩ := h
  have hnb : (es.toList.map (·.born)).Nodup := a2.2.1
  rcases run_next_at (P := P) W ty r m s c0 seen es c a4 a1 a5 a6 with ⟨h0, hr⟩ | ⟨e, he, w1, hw1, hr⟩
  · refine .inl ⟨fun p hp => ?_, hr⟩
    have : pr p ∈ es.toList.map (fun e => (e.key, e.val)) := by rw [a3]; exact List.mem_map_of_mem hp
    obtain ⟨x, hx, ex⟩ := List.mem_map.1 this
    have hs : x.born ∈ seen := by
      refine Classical.byContradiction fun hc => ?_
      have : x ∈ (leftOf es seen).toList := by simp [leftOf]; exact ⟨by simpa using hx, hc⟩
      rw [List.length_eq_zero_iff.1 (show (leftOf es seen).toList.length = 0 by simpa using h0)] at this
      cases this
    obtain ⟨q, hq, eq⟩ := (a9 x hx).1 hs
    injection ex with e1 e2
    rw [e1] at eq
    injection eq with eq
    have hqL := a10 q hq
    have : q = p := by
      obtain ⟨i, hi, ei⟩ := List.getElem_of_mem hqL
      obtain ⟨j, hj, ej⟩ := List.getElem_of_mem hp
      have hij : i = j := (List.getElem_inj (xs := L.map (·.1)) (h₀ := by simpa using hi) (h₁ := by simpa using hj) hn).1 (by simp [ei, ej, eq])
      subst hij
      rw [← ei, ← ej]
    rw [← this]; exact hq
  · have hee : e ∈ es.toList ∧ e.born ∉ seen := by simpa [leftOf] using he
    obtain ⟨p, hp, ek, ev⟩ := MapL.mem a3 e hee.1
    have hlr : r < w1.heap.size := by rcases hw1 with rfl | rfl <;> exact hltr
    have hb1 : w1.heap[m]? = some (.map es c) := by rcases hw1 with rfl | rfl <;> exact a1
    have hrr : (setBlock w1 r (.mapIter (some m) s (seen.push e.born) c)).heap[r]? = some (.mapIter (some m) s (seen.push e.born) c) := by
      simp [setBlock, hlr]
    have hmm : (setBlock w1 r (.mapIter (some m) s (seen.push e.born) c)).heap[m]? = some (.map es c) := by
      simp [setBlock, Array.getElem?_setIfInBounds, a8, hb1]
    refine .inr ⟨p, hp, fun q hq eq => hee.2 ((a9 e hee.1).2 ⟨q, hq, by rw [ek, eq]⟩), _, by rw [hr, ek, ev], ⟨es, c, s, seen.push e.born, c, hmm, a2, a3, hrr, a5, by omega, a7, a8, ?_, ?_, ?_⟩, ?_, ?_⟩
    · intro x hx
      simp only [Array.mem_push, a9 x hx, List.mem_append, List.mem_singleton]
      constructor
      · rintro (⟨q, hq, eq⟩ | hb)
        · exact ⟨q, .inl hq, eq⟩
        · obtain ⟨i, hi, ei⟩ := List.getElem_of_mem hx
          obtain ⟨j, hj, ej⟩ := List.getElem_of_mem hee.1
          have hij : i = j := (List.getElem_inj (xs := es.toList.map (·.born)) (h₀ := by simpa using hi) (h₁ := by simpa using hj) hnb).1 (by simp only [List.getElem_map, ei, ej, hb])
          subst hij
          exact ⟨p, .inr rfl, by rw [← ei, ej, ek]⟩
      · rintro ⟨q, hq | rfl, eq⟩
        · exact .inl ⟨q, hq, eq⟩
        · right
          obtain ⟨i, hi, ei⟩ := List.getElem_of_mem hx
          obtain ⟨j, hj, ej⟩ := List.getElem_of_mem hee.1
          have hkn : (es.toList.map (·.key)).Nodup := by
            have e3 : es.toList.map (·.key) = L.map (fun p => Value.string p.1) := by
              have := congrArg (List.map Prod.fst) a3
              simpa [List.map_map, Function.comp_def, pr] using this
            rw [e3]
            rw [List.nodup_iff_pairwise_ne, List.pairwise_map] at hn ⊢
            exact hn.imp (fun hne he => hne (by injection he))
          have hij : i = j := (List.getElem_inj (xs := es.toList.map (·.key)) (h₀ := by simpa using hi) (h₁ := by simpa using hj) hkn).1 (by simp only [List.getElem_map, ei, ej, eq, ek])
          subst hij
          rw [← ei, ej]
    · intro q hq
      rcases List.mem_append.1 hq with hq | hq
      · exact a10 q hq
      · rw [List.mem_singleton.1 hq]; exact hp
    · rw [List.map_append, List.nodup_append]
      refine ⟨a11, by simp, ?_⟩
      intro a ha b hb hab
      obtain ⟨q, hq, rfl⟩ := List.mem_map.1 ha
      rw [show b = p.1 by simpa using hb] at hab
      exact hee.2 ((a9 e hee.1).2 ⟨q, hq, by rw [ek, hab]⟩)
    · refine ⟨?_, ?_, ?_, ?_, ?_⟩
      · rcases hw1 with rfl | rfl <;> rfl
      · rcases hw1 with rfl | rfl <;> rfl
      · rcases hw1 with rfl | rfl <;> rfl
      · rcases hw1 with rfl | rfl <;> simp [setBlock]
      · intro k hk hne
        have : r ≠ k := fun h => hne (by rw [h])
        have e1 : w1.heap[k]? = W.heap[k]? := by rcases hw1 with rfl | rfl <;> rfl
        rw [← e1]
        simp [setBlock, Array.getElem?_setIfInBounds, this]
    · rw [run_entry_at _ r m s seen es c e hrr hmm hee.1 hnb, ek, ev]
theorem filter_less {α : Type} (p q : α → Bool) : ∀ (L : List α), (∀ x ∈ L, q x = true → p x = true) → (∃ a ∈ L, p a = true ∧ q a = false) → (L.filter q).length < (L.filter p).length
  | [], _, ⟨_, h, _⟩ => by cases h
  | x :: L, hi, ⟨a, ha, h1, h2⟩ => by
    have hle : (L.filter q).length ≤ (L.filter p).length := by
      clear ha h1 h2
      induction L with
      | nil => simp
      | cons y L ih =>
        have hy := hi y (by simp)
        have := ih (fun z hz => hi z (by simp at hz ⊢; rcases hz with h | h <;> simp [h]))
        cases hq : q y <;> cases hp : p y <;> simp [List.filter_cons, hq, hp] <;> first | omega | (rw [hy hq] at hp; cases hp)
    rcases List.mem_cons.1 ha with rfl | ha
    · simp [List.filter_cons, h1, h2]; omega
    · have ih := filter_less p q L (fun z hz => hi z (by simp [hz])) ⟨a, ha, h1, h2⟩
      have hx := hi x (by simp)
      cases hq : q x <;> cases hp : p x <;> simp [List.filter_cons, hq, hp] <;> first | omega | (rw [hx hq] at hp; cases hp)
/-- How many are still to come. -/
def togo (L ds : List (ByteArray × Value)) : Nat := (L.filter fun p => !decide (p.1.data ∈ ds.map (·.1.data))).length
theorem togo_less {p : ByteArray × Value} (hp : p ∈ L) (hn : ∀ q ∈ ds, q.1 ≠ p.1) : togo L (ds ++ [p]) < togo L ds := by
  refine filter_less _ _ L (fun x _ hx => ?_) ⟨p, hp, ?_, ?_⟩
  · rw [Bool.not_eq_true', decide_eq_false_iff_not] at hx ⊢
    exact fun h => hx (by rw [List.map_append]; exact List.mem_append_left _ h)
  · rw [Bool.not_eq_true', decide_eq_false_iff_not]
    intro h
    obtain ⟨q, hq, e⟩ := List.mem_map.1 h
    exact hn q hq (ByteArray.ext e)
  · rw [Bool.not_eq_false', decide_eq_true_iff, List.map_append]
    exact List.mem_append_right _ (by simp)
theorem all_perm (hn : (L.map (·.1)).Nodup) (hd : (ds.map (·.1)).Nodup) (h1 : ∀ p ∈ ds, p ∈ L) (h2 : ∀ p ∈ L, p ∈ ds) : ds.Perm L := by
  refine (List.perm_ext_iff_of_nodup ?_ ?_).2 (fun a => ⟨h1 a, h2 a⟩)
  · rw [List.nodup_iff_pairwise_ne, List.pairwise_map] at hd
    rw [List.nodup_iff_pairwise_ne]
    exact hd.imp (fun h e => h (by rw [e]))
  · rw [List.nodup_iff_pairwise_ne, List.pairwise_map] at hn
    rw [List.nodup_iff_pairwise_ne]
    exact hn.imp (fun h e => h (by rw [e]))
end
/-- A map whose keys are texts for which P holds. -/
def MapN (P : ByteArray → Prop) (w : World) (m : Nat) : Prop := ∃ L, MapL w m L ∧ ∀ p ∈ L, P p.1
section
variable {P : Program} {mty kt et : TypeId} {Q : ByteArray → Prop} {W W' : World} {m : Nat}
theorem MapN.lt (h : MapN Q W m) : m < W.heap.size := by obtain ⟨L, h, _⟩ := h; exact h.lt
theorem MapN.new (w : World) : MapN Q (w.alloc (.map #[] 0)) w.heap.size := ⟨[], MapL.new w, by simp⟩
theorem MapN.fr {bad : TypeId → Prop} (h : MapN Q W m) (hf : Ky.Fr bad W W') : MapN Q W' m := by
  obtain ⟨L, ⟨es, c, a1, a2⟩, h2⟩ := h
  exact ⟨L, ⟨es, c, (hf.keep m (Array.getElem?_eq_some_iff.1 a1).1 (fun cs T z e => by rw [a1] at e; cases e)).trans a1, a2⟩, h2⟩
theorem MapL.of_kept {es : Array MapEntry} {c : Nat} (hb : W.heap[m]? = some (.map es c)) (hs : Stamped es c) (hk : ∀ x ∈ es.toList, ∃ s, x.key = .string s ∧ Q s) : MapN Q W m := by
  refine ⟨es.toList.map (fun e => ((match e.key with | .string s => s | _ => ⟨#[]⟩), e.val)), ⟨es, c, hb, hs, ?_⟩, ?_⟩
  · rw [List.map_map]
    apply List.map_congr_left
    intro x hx
    obtain ⟨s, e, _⟩ := hk x hx
    simp [pr, e]
  · intro p hp
    obtain ⟨x, hx, rfl⟩ := List.mem_map.1 hp
    obtain ⟨s, e, hq⟩ := hk x hx
    simp only [e]
    exact hq
theorem MapN.kept (h : MapN Q W m) : ∃ es c, W.heap[m]? = some (.map es c) ∧ Stamped es c ∧ ∀ x ∈ es.toList, ∃ s, x.key = .string s ∧ Q s := by
  obtain ⟨L, ⟨es, c, hb, hs, hl⟩, hq⟩ := h
  refine ⟨es, c, hb, hs, fun x hx => ?_⟩
  obtain ⟨p, hp, e, _⟩ := MapL.mem hl x hx
  exact ⟨p.1, e, hq p hp⟩
theorem stamped_mod {es : Array MapEntry} {c : Nat} (h : Stamped es c) (j : Nat) (v : Value) (e : MapEntry) (he : es[j]? = some e) (k : Value) (hk : k = e.key) : Stamped (es.modify j fun e => { e with key := k, val := v }) c :=
  stamped_modify h j _ (fun _ _ => rfl) (fun e' _ h' => by rw [he] at h'; injection h' with h'; rw [← h']; exact hk)
theorem run_put (hm : P.underlying mty = some (.map kt et)) (hd : P.underlying kt = some .string) (h : MapN Q W m) (s : ByteArray) (v : Value) (hs : Q s) :
    ∃ W', Sem.run P (Instr.mapUpdate mty (.map (some m)) (.string s) v) W = .ok () W' ∧ MapN Q W' m ∧ W.grownBy W' (some m) := by
  obtain ⟨es, c, hb, hst, hks⟩ := h.kept
  have hk : IsKey .string (.string s) := trivial
  obtain ⟨r, hr⟩ : ∃ r, Sem.run P (Instr.mapUpdate mty (.map (some m)) (.string s) v) W = r := ⟨_, rfl⟩
  have hr0 := hr
  rcases findNow_spec hk es.toList 0 (fun x hx => by obtain ⟨q, e, _⟩ := hks x hx; rw [e]; trivial) with ⟨h1, hne⟩ | ⟨j, e, h1, h2, h3⟩
  · simp [Instr.mapUpdate, run_underlying hm, MapKept.run_getObj_map hb, run_checkKey hd hk, run_findKey hd h1, MapKept.run_setObj_map _ hb, Result.andThen] at hr
    subst hr
    refine ⟨_, hr0, MapL.of_kept (heap_set hb).1 (stamped_push hst hne) ?_, ⟨rfl, rfl, rfl, by simp, fun k _ hne => (heap_set hb).2 k (fun e => hne (by rw [e]))⟩⟩
    intro x hx
    simp only [Array.toList_push, List.mem_append, List.mem_singleton] at hx
    rcases hx with hx | rfl
    · exact hks x hx
    · exact ⟨s, rfl, hs⟩
  · have hj : es[j]? = some e := by simpa using h2
    simp [Instr.mapUpdate, run_underlying hm, MapKept.run_getObj_map hb, run_checkKey hd hk, run_findKey hd h1, hj, h3, MapKept.run_keyThatStays hk, MapKept.run_setObj_map _ hb, Result.andThen] at hr
    subst hr
    refine ⟨_, hr0, MapL.of_kept (heap_set hb).1 (stamped_modify hst j _ (fun _ _ => rfl) (fun e' _ h' => by rw [hj] at h'; injection h' with h'; subst h'; exact h3.symm)) ?_, ⟨rfl, rfl, rfl, by simp, fun k _ hne => (heap_set hb).2 k (fun e => hne (by rw [e]))⟩⟩
    intro x hx
    have : x.key ∈ (es.modify j fun e => { e with key := Value.string s, val := v }).toList.map (·.key) := List.mem_map.2 ⟨x, hx, rfl⟩
    rw [modify_keys j _ (fun e' h' => by rw [hj] at h'; injection h' with h'; subst h'; exact h3.symm)] at this
    obtain ⟨y, hy, ey⟩ := List.mem_map.1 this
    rw [← ey]; exact hks y hy
theorem run_del (hm : P.underlying mty = some (.map kt et)) (hd : P.underlying kt = some .string) (ty : TypeId) (h : MapN Q W m) (s : ByteArray) :
    ∃ W', Sem.run P (Builtin.delete_ #[mty, kt] ty #[.map (some m), .string s]) W = .ok (.tuple #[]) W' ∧ MapN Q W' m ∧ W.grownBy W' (some m) := by
  obtain ⟨es, c, hb, hst, hks⟩ := h.kept
  have hk : IsKey .string (.string s) := trivial
  obtain ⟨r, hr⟩ : ∃ r, Sem.run P (Builtin.delete_ #[mty, kt] ty #[.map (some m), .string s]) W = r := ⟨_, rfl⟩
  have hr0 := hr
  rcases findNow_spec hk es.toList 0 (fun x hx => by obtain ⟨q, e, _⟩ := hks x hx; rw [e]; trivial) with ⟨h1, hne⟩ | ⟨j, e, h1, h2, h3⟩
  · simp [Builtin.delete_, run_underlying hm, MapKept.run_getObj_map hb, run_checkKey hd hk, run_findKey hd h1, MapKept.run_setObj_map _ hb, Result.andThen] at hr
    subst hr
    exact ⟨_, hr0, MapL.of_kept (heap_set hb).1 hst hks, ⟨rfl, rfl, rfl, by simp, fun k _ hne => (heap_set hb).2 k (fun e => hne (by rw [e]))⟩⟩
  · simp [Builtin.delete_, run_underlying hm, MapKept.run_getObj_map hb, run_checkKey hd hk, run_findKey hd h1, MapKept.run_setObj_map _ hb, Result.andThen] at hr
    subst hr
    refine ⟨_, hr0, MapL.of_kept (heap_set hb).1 (stamped_erase hst _) ?_, ⟨rfl, rfl, rfl, by simp, fun k _ hne => (heap_set hb).2 k (fun e => hne (by rw [e]))⟩⟩
    intro x hx
    refine hks x ?_
    unfold Array.eraseIdxIfInBounds at hx
    split at hx
    · simp only [Array.toList_eraseIdx] at hx
      exact (List.eraseIdx_sublist _ _).subset hx
    · exact hx
end
end Go.Proofs.YtlbnemnadegapaaDoor.Nm
