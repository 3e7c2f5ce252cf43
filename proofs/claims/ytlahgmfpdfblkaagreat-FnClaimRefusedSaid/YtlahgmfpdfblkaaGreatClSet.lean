/- The walk of Set of a token with any name and any value: what its three texts are behind it; the conditions are on what lies in memory. -/
import Derived.Test.YtlahgmfpdfblkaaGreatClAud
import Derived.MapFrom
set_option linter.unusedVariables false
set_option linter.unusedSimpArgs false
namespace Go.Proofs.YtlahgmfpdfblkaaGreat.Cl
open Go.RowKit Go.Proofs.YtlahgmfpdfblkaaGreat.K
def MapOk (w : World) (m : Nat) : Prop := ∃ es c, w.heap[m]? = some (.map es c) ∧ ∀ x ∈ es.toList, MapKept.IsKey .string x.key
theorem MapOk.lt {w : World} {m : Nat} (h : MapOk w m) : m < w.heap.size := by
  obtain ⟨es, c, h, _⟩ := h
  exact (Array.getElem?_eq_some_iff.1 h).1
theorem MapOk.grown {w w' : World} {m : Nat} {r : Option Nat} (h : MapOk w m) (hg : w.grownBy w' r) (hne : some m ≠ r) : MapOk w' m := by
  have hl := h.lt
  obtain ⟨es, c, h, hk⟩ := h
  exact ⟨es, c, (hg.block m hl hne).trans h, hk⟩
theorem MapOk.below {w w' : World} {m : Nat} (h : MapOk w m) (hb : Below w.heap.size w w') : MapOk w' m := by
  have hl := h.lt
  obtain ⟨es, c, h, hk⟩ := h
  exact ⟨es, c, (hb.block m hl).trans h, hk⟩
theorem MapOk.ne {w : World} {m g : Nat} {T : TypeId} {cs : Array Value} (h : MapOk w m) (hb : Blk w g T cs) : g ≠ m := by
  rintro rfl
  obtain ⟨es, c, h, _⟩ := h
  unfold Blk at hb
  rw [hb] at h
  cases h
theorem run_mapUp (W : World) (m : Nat) (h : MapOk W m) (s : ByteArray) (v : Value) :
    ∃ W', Sem.run Tryz.prog (Instr.mapUpdate 83 (.map (some m)) (.string s) v) W = .ok () W' ∧ MapOk W' m ∧ W.grownBy W' (some m) := by
  obtain ⟨es, c, hb, hks⟩ := h
  have hk : MapKept.IsKey .string (.string s) := trivial
  have hm : Tryz.prog.underlying 83 = some (.map 9 20) := Tryz.underlying83
  have hd : Tryz.prog.underlying 9 = some .string := Tryz.underlying9
  obtain ⟨r, hr⟩ : ∃ r, Sem.run Tryz.prog (Instr.mapUpdate 83 (.map (some m)) (.string s) v) W = r := ⟨_, rfl⟩
  have hr0 := hr
  rcases MapKept.findNow_spec hk es.toList 0 hks with ⟨h1, _⟩ | ⟨j, e, h1, h2, h3⟩
  · simp [Instr.mapUpdate, run_underlying hm, MapKept.run_getObj_map hb, MapKept.run_checkKey hd hk, MapKept.run_findKey hd h1, MapKept.run_setObj_map _ hb, Result.andThen] at hr
    subst hr
    refine ⟨_, hr0, ⟨_, _, (MapKept.heap_set hb).1, ?_⟩, ⟨rfl, rfl, rfl, by simp, fun k _ hne => (MapKept.heap_set hb).2 k (fun e => hne (by rw [e]))⟩⟩
    intro x hx
    simp only [Array.toList_push, List.mem_append, List.mem_singleton] at hx
    rcases hx with hx | rfl
    · exact hks x hx
    · exact hk
  · have hj : es[j]? = some e := by simpa using h2
    simp [Instr.mapUpdate, run_underlying hm, MapKept.run_getObj_map hb, MapKept.run_checkKey hd hk, MapKept.run_findKey hd h1, hj, h3, MapKept.run_keyThatStays hk, MapKept.run_setObj_map _ hb, Result.andThen] at hr
    subst hr
    exact ⟨_, hr0, ⟨_, _, (MapKept.heap_set hb).1, MapKept.isKey_modify hks j _ (fun e' he' => by rw [hj] at he'; cases he'; exact h3.symm)⟩, ⟨rfl, rfl, rfl, by simp, fun k _ hne => (MapKept.heap_set hb).2 k (fun e => hne (by rw [e]))⟩⟩
/-- The three texts of a token. -/
structure St where
  iss : Option ByteArray
  jti : Option ByteArray
  sub : Option ByteArray
def nIss : ByteArray := ⟨#[105, 115, 115]⟩
def nJti : ByteArray := ⟨#[106, 116, 105]⟩
def nSub : ByteArray := ⟨#[115, 117, 98]⟩
def nAud : ByteArray := ⟨#[97, 117, 100]⟩
def upd (name : ByteArray) (o : Option ByteArray) (st : St) : St :=
  match o with
  | none => st
  | some x => if name = nIss then { st with iss := some x } else if name = nJti then { st with jti := some x } else if name = nSub then { st with sub := some x } else st
def Txt (w : World) (g : Nat) (p : Option Addr) (o : Option ByteArray) : Prop := (o = none ∧ p = none) ∨ ∃ x b, o = some x ∧ p = some ⟨b, 0, none⟩ ∧ Blk w b 9 #[.string x] ∧ b ≠ g
theorem Txt.grown {w w' : World} {g : Nat} {p : Option Addr} {o : Option ByteArray} {r : Option Nat} (h : Txt w g p o) (hg : w.grownBy w' r) (hne : ∀ b x, Blk w b 9 #[.string x] → b ≠ g → some b ≠ r) : Txt w' g p o := by
  rcases h with h | ⟨x, b, h1, h2, h3, h4⟩
  · exact Or.inl h
  · exact Or.inr ⟨x, b, h1, h2, h3.grown hg (hne b x h3 h4), h4⟩
def TokS (w0 w : World) (g : Nat) (st : St) : Prop :=
  ∃ A n c pi pj ps m, Blk w g 101 #[.int .u64 0, .slice A n c, .pointer pi, .pointer pj, .pointer ps, .map (some m)] ∧ Txt w g pi st.iss ∧ Txt w g pj st.jti ∧ Txt w g ps st.sub ∧ MapOk w m ∧ w0.heap.size ≤ m
theorem TokS.lt {w0 w : World} {g : Nat} {st : St} (h : TokS w0 w g st) : g < w.heap.size := by
  obtain ⟨A, n, c, pi, pj, ps, m, h, _⟩ := h
  exact h.lt
/-- Nothing that was there is touched. -/
theorem TokS.below {w0 w w' : World} {g : Nat} {st : St} (h : TokS w0 w g st) (hb : Below w.heap.size w w') : TokS w0 w' g st := by
  obtain ⟨A, n, c, pi, pj, ps, m, h1, h2, h3, h4, h5, h6⟩ := h
  have hg := grown_of_below hb (Nat.le_refl _) none
  exact ⟨A, n, c, pi, pj, ps, m, h1.below hb h1.lt, h2.grown hg (fun _ _ _ _ e => by cases e), h3.grown hg (fun _ _ _ _ e => by cases e), h4.grown hg (fun _ _ _ _ e => by cases e), h5.below hb, h6⟩
def VForm (v : Value) (o : Option ByteArray) : Prop := (∃ s, v = .iface 9 (.string s) ∧ o = some s) ∨ (∃ a n c, v = .iface 23 (.slice (some a) n c) ∧ o = none) ∨ (IsOther v ∧ o = none)
/-- What a type assertion to a text gives. -/
theorem VForm.ta {v : Value} {o : Option ByteArray} (h : VForm v o) (W : World) : Sem.run Tryz.prog (Instr.typeAssert v 20 9 true) W = .ok (.tuple #[.string (o.getD ByteArray.empty), .bool o.isSome]) W := by
  rcases h with ⟨s, rfl, rfl⟩ | ⟨a, n, c, rfl, rfl⟩ | ⟨rfl | ⟨b, rfl⟩ | ⟨f, rfl⟩, rfl⟩
  · exact ta_text s W
  · exact ta_list1 (some a) n c W
  · exact ta_nil1 W
  · exact ta_b1 b W
  · exact ta_f1 f W
def APost (w : World) (g : Nat) (e : Ending) (w' : World) : Prop :=
  (e = .returned .nilIface ∧ w.grownBy w' (some g) ∧ ∃ A n c, Blk w' g 52 #[.slice A n c]) ∨ ((∃ T u, e = .returned (.iface T u)) ∧ w.grownBy w' (some g))
set_option maxRecDepth 100000 in
set_option maxHeartbeats 1000000 in
theorem Accept_any (w : World) (g : Nat) (v : Value) (o : Option ByteArray) (hv : VForm v o) (hb : Blk w g 52 #[.slice none 0 0]) :
    Calls Tryz.prog 18 #[.pointer (some ⟨g, 0, none⟩), v] w (APost w g) := by
  rcases hv with ⟨s, rfl, rfl⟩ | ⟨a, n, c, rfl, rfl⟩ | ⟨hv, rfl⟩
  · refine (Accept_text w g s hb).mono ?_
    rintro e w' ⟨rfl, hg, a, c, h1, _⟩
    exact Or.inl ⟨rfl, hg, _, _, _, h1⟩
  · have hc1 : w.cell? ⟨g, 0, none⟩ = some (.slice none 0 0) := by rw [hb.cell]; rfl
    have hf1 : w.frozen? ⟨g, 0, none⟩ = false := hb.frozen 0
    have HB1 := Lib.hid hb
    have hta1 := ta_list1 (some a) n c
    have hta2 := ta_list2 (some a) n c
    clear hb
    go_enter Tryz.func18, Tryz.ntmps18
    go_wp2
    go_ret
    exact Or.inl ⟨rfl, setCell_grown w ⟨g, 0, none⟩ (.slice (some a) n c), _, _, _, HB1.out.set_ 0 _⟩
  · refine (Accept_other w g v hv).mono ?_
    rintro e w' ⟨h, hB⟩
    exact Or.inr ⟨h, grown_of_below hB (Nat.le_refl _) _⟩
/-- Blocks of cells but one lie as before. -/
def Fr (w : World) (g : Nat) (w' : World) : Prop := ∀ k T cs, Blk w k T cs → k ≠ g → Blk w' k T cs
theorem Fr.of {w w' : World} {g : Nat} (h : Below w.heap.size w w') : Fr w g w' := fun k T cs hk _ => hk.below h hk.lt
def SPost (w0 w : World) (g : Nat) (st : St) (e : Ending) (w' : World) : Prop := (∃ u, e = .returned u) ∧ Below w0.heap.size w0 w' ∧ TokS w0 w' g st ∧ Fr w g w'
end Go.Proofs.YtlahgmfpdfblkaaGreat.Cl
