import Derived.Test.YtapjbdigpleekaaGreatGQ
/- jwt.Builder: NewBuilder, Claim, and the claims of a list one behind the other. The conditions are on what lies in memory. -/
set_option linter.unusedVariables false
set_option linter.unusedSimpArgs false
namespace Go.Proofs.YtapjbdigpleekaaGreat.Mp
open Go.RowKit Go.Proofs.YtapjbdigpleekaaGreat.K Go.Proofs.YtapjbdigpleekaaGreat.Cl
/-- A builder at block g, with its claims. -/
structure Bld (w : World) (B g : Nat) (m : Option Nat) (S : List NP) : Prop where
  blk : Blk w g 171 #[.map m]
  prv : Prv w B m S
  base : B ≤ g
  nd : (S.map (·.1)).Nodup
  ok : ∀ p ∈ S, p.2.ok
section
variable {w w' : World} {B g : Nat} {m : Option Nat} {S : List NP}
theorem Bld.below (h : Bld w B g m S) (hb : Below w.heap.size w w') : Bld w' B g m S :=
  ⟨h.blk.below hb h.blk.lt, h.prv.grown (grown_of_below hb (Nat.le_refl _) none) (safe_none w) (fun _ _ e => by cases e), h.base, h.nd, h.ok⟩
theorem Bld.safe (h : Bld w B g m S) : Safe w (some g) := safe_blk h.blk (by decide)
theorem Bld.put {mm : Nat} (h : Bld w B g (some mm) S) {n : ByteArray} {v : Value} {x : PV} (hv : PVal w 0 v x) (hx : x.ok) {mty kt et : TypeId} {P : Program} (hm : P.underlying mty = some (.map kt et)) (hd : P.underlying kt = some .string) :
    ∃ W', Sem.run P (Instr.mapUpdate mty (.map (some mm)) (.string n) v) w = .ok () W' ∧ Bld W' B g (some mm) (putG n x S) ∧ w.grownBy W' (some mm) ∧ B ≤ mm ∧ Keep w g W' := by
  rcases h.prv with ⟨e, _⟩ | ⟨m2, E, e, h2, h3, h4, h5⟩
  · cases e
  injection e with e
  subst e
  have en : (E.map fun t => (t.1, t.2.1)).map (·.1) = S.map (·.1) := by rw [← h4, List.map_map, List.map_map]; rfl
  have hnd : ((E.map fun t => (t.1, t.2.1)).map (·.1)).Nodup := by rw [en]; exact h.nd
  obtain ⟨W', hr, hM, hg⟩ := run_putL hm hd h3 hnd n v
  have hs := safe_map h3
  refine ⟨W', hr, ⟨h.blk.grown hg (fun e => h3.ne h.blk (Option.some.inj e)), ?_, h.base, nodup_putG h.nd, ok_put h.ok hx⟩, hg, h2, keep_map h3 hg⟩
  refine .inr ⟨mm, putG n (v, x) E, rfl, h2, ?_, ?_, ?_⟩
  · rw [putG_map (fun t : Value × PV => t.1)]
    exact hM
  · rw [putG_map (fun t : Value × PV => t.2), h4]
  · intro t ht
    by_cases hin : n ∈ E.map (·.1)
    · rw [putG_in hin] at ht
      obtain ⟨q, hq, rfl⟩ := List.mem_map.1 ht
      split
      · exact hv.grown hg hs
      · exact (h5 q hq).grown hg hs
    · rw [putG_out hin] at ht
      rcases List.mem_append.1 ht with ht | ht
      · exact (h5 t ht).grown hg hs
      · rw [List.mem_singleton.1 ht]; exact hv.grown hg hs
theorem Bld.newmap (h : Bld w B g none S) (hB : B ≤ w.heap.size) : Bld ((w.alloc (.map #[] 0)).setCell ⟨g, 0, none⟩ (.map (some w.heap.size))) B g (some w.heap.size) S := by
  have hp : S = [] := by
    rcases h.prv with ⟨_, h⟩ | ⟨mm, _, e, _⟩
    · exact h
    · cases e
  subst hp
  have h1 := h.below ((Below.refl w.heap.size w).alloc (Nat.le_refl _) (.map #[] 0))
  have hg := setCell_grown (w.alloc (.map #[] 0)) ⟨g, 0, none⟩ (.map (some w.heap.size))
  exact ⟨h1.blk.set_ _ _, .inr ⟨w.heap.size, [], rfl, hB, (MapL.new w).grown hg (fun e => by have := h.blk.lt; injection e with e; have e : w.heap.size = g := e; omega), rfl, fun t ht => by cases ht⟩, h.base, h.nd, h.ok⟩
end
/-- What Claim leaves. -/
def ClaimP (B g : Nat) (S : List NP) (v : Value) (w : World) (e : Ending) (w' : World) : Prop := ∃ m, e = .returned v ∧ Bld w' B g (some m) S ∧ Below B w w' ∧ Keep w g w'
theorem mk_map2 (W : World) : Sem.run Tryz.prog (Instr.makeMap 169 none) W = .ok (.map (some W.heap.size)) (W.alloc (.map #[] 0)) := by kernel_rfl
set_option maxRecDepth 100000 in
set_option maxHeartbeats 1000000 in
theorem init_calls {w : World} {B g : Nat} {m : Option Nat} {S : List NP} (h : Bld w B g m S) (hB : B ≤ w.heap.size) : Calls Tryz.prog 121 #[.pointer (some ⟨g, 0, none⟩)] w (ClaimP B g S (.tuple #[]) w) := by
  have hc : w.cell? ⟨g, 0, none⟩ = some (.map m) := by rw [h.blk.cell]; rfl
  cases m with
  | some mm =>
    have hmn : ∀ W : World, Sem.run Tryz.prog (binOp .eql 169 (.map (some mm)) (.map none)) W = .ok (.bool false) W := fun W => by kernel_rfl
    have HH := Lib.hid h
    clear h
    go_enter Tryz.func121, Tryz.ntmps121
    go_wp2
    first | go_end0 | refine bodyPost_end (v := .tuple #[]) (results_none rfl _ _ _) rfl ?_
    exact ⟨mm, rfl, HH.out, Below.refl _ _, keep_below (Below.refl _ _)⟩
  | none =>
    have h1 := h.newmap hB
    have hb1 := h.blk.alloc (.map #[] 0)
    have hf : (w.alloc (.map #[] 0)).frozen? ⟨g, 0, none⟩ = false := hb1.frozen 0
    have hc1 : (w.alloc (.map #[] 0)).cell? ⟨g, 0, none⟩ = some (.map none) := by rw [hb1.cell]; rfl
    have hg1 := setCell_grown (w.alloc (.map #[] 0)) ⟨g, 0, none⟩ (.map (some w.heap.size))
    have hmn : ∀ W : World, Sem.run Tryz.prog (binOp .eql 169 (.map none) (.map none)) W = .ok (.bool true) W := fun W => by kernel_rfl
    have hmm := mk_map2
    have HB : Hid (Below B w ((w.alloc (.map #[] 0)).setCell ⟨g, 0, none⟩ (.map (some w.heap.size)))) := Lib.hid (((Below.refl B w).alloc hB (.map #[] 0)).setCell (p := ⟨g, 0, none⟩) h.base (.map (some w.heap.size)))
    have HK : Hid (Keep w g ((w.alloc (.map #[] 0)).setCell ⟨g, 0, none⟩ (.map (some w.heap.size)))) := Lib.hid ((keep_below (below_alloc' (Below.refl _ _) (.map #[] 0))).trans (keep_g hg1))
    have HH := Lib.hid h1
    clear h h1 hb1 hg1 hB
    go_enter Tryz.func121, Tryz.ntmps121
    go_wp2
    first | go_end0 | refine bodyPost_end (v := .tuple #[]) (results_none rfl _ _ _) rfl ?_
    exact ⟨_, rfl, HH.out, HB.out, HK.out⟩
theorem pval_keep {w w' : World} {g B : Nat} {v : Value} {x : PV} (h : PVal w B v x) (hk : Keep w g w') (hg : ∀ cs T z, w.heap[g]? = some (.cells cs T z) → T ≠ 9) : PVal w' B v x := by
  cases x with
  | txt s => exact h
  | tru b => exact h
  | num z => exact h
  | lst l =>
    obtain ⟨a, n, c, e, ho⟩ := h
    refine ⟨a, n, c, e, ho.1, ?_⟩
    rcases ho.2 with h0 | ⟨g', cap, cur, e2, h2, hh, h3⟩
    · exact .inl h0
    · have hne : g' ≠ g := fun e3 => by subst e3; exact hg _ _ _ hh rfl
      exact .inr ⟨g', cap, cur, e2, h2, (by first | exact hk.cells hh hne | exact hk _ _ _ _ hh hne), h3⟩
set_option maxRecDepth 100000 in
set_option maxHeartbeats 1000000 in
theorem Claim_calls {w : World} {B g : Nat} {m : Option Nat} {S : List NP} (h : Bld w B g m S) (hB : B ≤ w.heap.size) {n : ByteArray} {v : Value} {x : PV} (hv : PVal w 0 v x) (hx : x.ok) :
    Calls Tryz.prog 107 #[.pointer (some ⟨g, 0, none⟩), .string n, v] w (ClaimP B g (putG n x S) (.pointer (some ⟨g, 0, none⟩)) w) := by
  have HI := Lib.hid (init_calls h hB)
  have hgs : ∀ cs T z, w.heap[g]? = some (.cells cs T z) → T ≠ 9 := by
    intro cs T z hc
    have := h.blk
    unfold Blk at this
    rw [hc] at this
    injection this with this
    injection this with _ ht
    rw [ht]; decide
  have HV := Lib.hid (And.intro hv (And.intro hx (And.intro hgs hB)))
  clear h hv hx hgs hB
  go_enter Tryz.func107, Tryz.ntmps107
  go_wp2_with fail
  refine HI.out.mono ?_
  rintro e w1 ⟨m1, rfl, hb1, hB1, hK1⟩
  obtain ⟨w2, hup, hb2, hg2, hm2, hK2⟩ := hb1.put (n := n) (pval_keep HV.out.1 hK1 HV.out.2.2.1) HV.out.2.1 (mty := 169) Tryz.underlying169 Tryz.underlying9
  have hc : w1.cell? ⟨g, 0, none⟩ = some (.map (some m1)) := by rw [hb1.blk.cell]; rfl
  have H2 := Lib.hid (And.intro hb2 (And.intro (hB1.trans (below_of_grown hg2 hm2 (Nat.le_trans HV.out.2.2.2 hB1.size))) (hK1.trans hK2)))
  clear HI HV hb1 hB1 hK1 hb2 hg2 hm2 hK2
  go_wp2
  go_ret
  exact ⟨m1, rfl, H2.out⟩
/-- A new builder. -/
def BuilderP (w : World) (e : Ending) (w' : World) : Prop := ∃ g, e = .returned (.pointer (some ⟨g, 0, none⟩)) ∧ Bld w' w.heap.size g none [] ∧ Below w.heap.size w w'
theorem NewBuilder_calls (w : World) : Calls Tryz.prog 76 #[] w (BuilderP w) := by
  go_enter Tryz.func76, Tryz.ntmps76
  go_wp2
  go_ret
  exact ⟨w.heap.size, rfl, ⟨Blk.new w _ _, .inl ⟨rfl, rfl⟩, Nat.le_refl _, List.nodup_nil, fun p hp => by cases hp⟩, below_alloc' (Below.refl _ _) _⟩
end Go.Proofs.YtapjbdigpleekaaGreat.Mp
