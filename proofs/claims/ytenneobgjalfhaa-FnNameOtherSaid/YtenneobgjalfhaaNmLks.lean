/- Walks of the six Lookups; no condition. Printed by gen_lk.py. -/
import Derived.Test.YtenneobgjalfhaaNmLook
set_option linter.unusedVariables false
set_option linter.unusedSimpArgs false
namespace Go.Proofs.Ytenneobgjalfhaa.Nm
open Go.RowKit Go.Proofs.Ytenneobgjalfhaa.K
theorem results_cs {f : Func} {T : TypeId} (hf : f.results = #[.cell 2 T, .tmp 3]) (tmps : Array Value) (w : World) (g : Nat) (cs : Array Value) (u : Value) (hp : tmps.getD 2 undef = .pointer (some ⟨g, 0, none⟩)) (hq : tmps.getD 3 undef = u) (hl : (loadVar T ⟨g, 0, none⟩).run Try.prog w = .ok (.agg cs) w) :
    (results f tmps).run Try.prog w = .ok (.tuple #[.agg cs, u]) w := by
  have hp' : tmps[2]?.getD undef = .pointer (some ⟨g, 0, none⟩) := by simpa using hp
  have hq' : tmps[3]?.getD undef = u := by simpa using hq
  simp [results, hf, hp', hq', asAddr, hl, Result.andThen]
def Found2 (tb : List (ByteArray × Bool)) (s : ByteArray) (w : World) (e : Ending) (w' : World) : Prop :=
  Below w.heap.size w w' ∧ ((∃ d, (s, d) ∈ tb ∧ e = .returned (.tuple #[two s d, .bool true])) ∨ ((∀ p ∈ tb, p.1 ≠ s) ∧ e = .returned (.tuple #[two ⟨#[]⟩ false, .bool false])))
def Found3 (tb : List (ByteArray × Bool × Bool)) (s : ByteArray) (w : World) (e : Ending) (w' : World) : Prop :=
  Below w.heap.size w w' ∧ ((∃ d y, (s, d, y) ∈ tb ∧ e = .returned (.tuple #[three s d y, .bool true])) ∨ ((∀ p ∈ tb, p.1 ≠ s) ∧ e = .returned (.tuple #[three ⟨#[]⟩ false false, .bool false])))
theorem taContentEncryption (v : Value) (W : World) : Sem.run Try.prog (Instr.typeAssert (.iface 40 v) 66 40 false) W = .ok v W := by kernel_rfl
theorem lkContentEncryption (s : ByteArray) (w : World) {e : Ending} {w' : World} (h : LkPost 3 s w e w') : Below w.heap.size w w' ∧ ((∃ d, (s, d) ∈ tabContentEncryption ∧ e = .returned (.tuple #[.iface 40 (two s d), .bool true])) ∨ ((∀ p ∈ tabContentEncryption, p.1 ≠ s) ∧ e = .returned (.tuple #[.nilIface, .bool false]))) := by
  obtain ⟨hB, h⟩ := h
  refine ⟨hB, ?_⟩
  rcases h with ⟨T, v, hl, rfl⟩ | ⟨hn, rfl⟩
  · refine Or.inl ?_
    rcases (reg_iff s _).1 hl with ⟨d, hm, h⟩ | ⟨d, y, hm, h⟩ | ⟨d, y, hm, h⟩
    all_goals
      obtain ⟨hk, rfl, rfl⟩ := ent_inj h
      first | exact absurd hk (by decide) | exact ⟨_, hm, rfl⟩ | exact ⟨_, _, hm, rfl⟩
  · refine Or.inr ⟨?_, rfl⟩
    rintro ⟨t, d⟩ hp rfl
    exact hn _ _ ((reg_iff t _).2 (Or.inl ⟨d, hp, rfl⟩))
set_option maxRecDepth 100000 in
set_option maxHeartbeats 1000000 in
theorem LookupContentEncryption_calls (w : World) (s : ByteArray) : Calls Try.prog 19 #[.string s] w (Found2 tabContentEncryption s w) := by
  have HK := Lib.hid (lookupAlgorithm_calls (w.alloc (.cells #[.string ⟨#[]⟩, .bool false] 40)) 3 s)
  have HN := Lib.hid (Blk.new w 40 #[.string ⟨#[]⟩, .bool false])
  have hta := fun v W => taContentEncryption v W
  go_enter Try.func19, Try.ntmps19
  go_wp2_with fail
  refine HK.out.mono ?_
  rintro e w1 he
  obtain ⟨hB, hc⟩ := lkContentEncryption s _ he
  have HB := Lib.hid (below_then (below_alloc' (Below.refl w.heap.size w) _) hB)
  have HB1 := Lib.hid (HN.out.below hB HN.out.lt)
  clear he hB HK HN
  rcases hc with ⟨d, hm, rfl⟩ | ⟨hn, rfl⟩
  · have HM := Lib.hid hm
    obtain ⟨⟨⟨v0, p0⟩, f0⟩, ⟨⟨v1, p1⟩, f1⟩, hk, g0⟩ := st2 HB1.out 0 (by decide) (.string s) (.bool d)
    simp only [Nat.reduceAdd] at p1 f1 hk g0
    have HKK := Lib.hid hk
    have HG := Lib.hid g0
    clear hk g0 HB1 hm
    go_wp2
    obtain ⟨Y, hY⟩ : ∃ Y, Y = ((w1.setCell ⟨w.heap.size, 0, none⟩ (.string s)).setCell ⟨w.heap.size, 1, none⟩ (.bool d)) := ⟨_, rfl⟩
    have hk := HKK.out
    have hg := HG.out
    rw [← hY] at hk hg ⊢
    exact bodyPost_ret (results_cs rfl _ _ w.heap.size #[.string s, .bool d] _ rfl rfl (run_loadVar_row _ _ _ _ #[.string s, .bool d] (0, 0) _ hk Try.underlying40 rfl (by kernel_rfl))) rfl ⟨HB.out.grown hg HB.out.size (by intro j hj; cases hj; exact Nat.le_refl _), Or.inl ⟨d, HM.out, rfl⟩⟩
  · have HM := Lib.hid hn
    have hb2 := HB1.out.alloc (.cells #[.string ⟨#[]⟩, .bool false] 40)
    have HD := Lib.hid (below_alloc' HB.out (.cells #[.string ⟨#[]⟩, .bool false] 40))
    obtain ⟨⟨⟨v0, p0⟩, f0⟩, ⟨⟨v1, p1⟩, f1⟩, hk, g0⟩ := st2 hb2 0 (by decide) (.string ⟨#[]⟩) (.bool false)
    simp only [Nat.reduceAdd] at p1 f1 hk g0
    have HKK := Lib.hid hk
    have HG := Lib.hid g0
    clear hk g0 HB1 hn hb2
    go_wp2
    obtain ⟨Y, hY⟩ : ∃ Y, Y = (((w1.alloc (.cells #[.string ⟨#[]⟩, .bool false] 40)).setCell ⟨w.heap.size, 0, none⟩ (.string ⟨#[]⟩)).setCell ⟨w.heap.size, 1, none⟩ (.bool false)) := ⟨_, rfl⟩
    have hk := HKK.out
    have hg := HG.out
    rw [← hY] at hk hg ⊢
    exact bodyPost_ret (results_cs rfl _ _ w.heap.size #[.string ⟨#[]⟩, .bool false] _ rfl rfl (run_loadVar_row _ _ _ _ #[.string ⟨#[]⟩, .bool false] (0, 0) _ hk Try.underlying40 rfl (by kernel_rfl))) rfl ⟨HD.out.grown hg HD.out.size (by intro j hj; cases hj; exact Nat.le_refl _), Or.inr ⟨HM.out, rfl⟩⟩
theorem taKeyEncryption (v : Value) (W : World) : Sem.run Try.prog (Instr.typeAssert (.iface 36 v) 66 36 false) W = .ok v W := by kernel_rfl
theorem lkKeyEncryption (s : ByteArray) (w : World) {e : Ending} {w' : World} (h : LkPost 2 s w e w') : Below w.heap.size w w' ∧ ((∃ d y, (s, d, y) ∈ tabKeyEncryption ∧ e = .returned (.tuple #[.iface 36 (three s d y), .bool true])) ∨ ((∀ p ∈ tabKeyEncryption, p.1 ≠ s) ∧ e = .returned (.tuple #[.nilIface, .bool false]))) := by
  obtain ⟨hB, h⟩ := h
  refine ⟨hB, ?_⟩
  rcases h with ⟨T, v, hl, rfl⟩ | ⟨hn, rfl⟩
  · refine Or.inl ?_
    rcases (reg_iff s _).1 hl with ⟨d, hm, h⟩ | ⟨d, y, hm, h⟩ | ⟨d, y, hm, h⟩
    all_goals
      obtain ⟨hk, rfl, rfl⟩ := ent_inj h
      first | exact absurd hk (by decide) | exact ⟨_, hm, rfl⟩ | exact ⟨_, _, hm, rfl⟩
  · refine Or.inr ⟨?_, rfl⟩
    rintro ⟨t, d, y⟩ hp rfl
    exact hn _ _ ((reg_iff t _).2 (Or.inr (Or.inl ⟨d, y, hp, rfl⟩)))
set_option maxRecDepth 100000 in
set_option maxHeartbeats 1000000 in
theorem LookupKeyEncryption_calls (w : World) (s : ByteArray) : Calls Try.prog 15 #[.string s] w (Found3 tabKeyEncryption s w) := by
  have HK := Lib.hid (lookupAlgorithm_calls (w.alloc (.cells #[.string ⟨#[]⟩, .bool false, .bool false] 36)) 2 s)
  have HN := Lib.hid (Blk.new w 36 #[.string ⟨#[]⟩, .bool false, .bool false])
  have hta := fun v W => taKeyEncryption v W
  go_enter Try.func15, Try.ntmps15
  go_wp2_with fail
  refine HK.out.mono ?_
  rintro e w1 he
  obtain ⟨hB, hc⟩ := lkKeyEncryption s _ he
  have HB := Lib.hid (below_then (below_alloc' (Below.refl w.heap.size w) _) hB)
  have HB1 := Lib.hid (HN.out.below hB HN.out.lt)
  clear he hB HK HN
  rcases hc with ⟨d, y, hm, rfl⟩ | ⟨hn, rfl⟩
  · have HM := Lib.hid hm
    obtain ⟨⟨⟨v0, p0⟩, f0⟩, ⟨⟨v1, p1⟩, f1⟩, ⟨⟨v2, p2⟩, f2⟩, hk, g0⟩ := st3 HB1.out 0 (by decide) (.string s) (.bool d) (.bool y)
    simp only [Nat.reduceAdd] at p1 f1 p2 f2 hk g0
    have HKK := Lib.hid hk
    have HG := Lib.hid g0
    clear hk g0 HB1 hm
    go_wp2
    obtain ⟨Y, hY⟩ : ∃ Y, Y = (((w1.setCell ⟨w.heap.size, 0, none⟩ (.string s)).setCell ⟨w.heap.size, 1, none⟩ (.bool d)).setCell ⟨w.heap.size, 2, none⟩ (.bool y)) := ⟨_, rfl⟩
    have hk := HKK.out
    have hg := HG.out
    rw [← hY] at hk hg ⊢
    exact bodyPost_ret (results_cs rfl _ _ w.heap.size #[.string s, .bool d, .bool y] _ rfl rfl (run_loadVar_row _ _ _ _ #[.string s, .bool d, .bool y] (0, 0) _ hk Try.underlying36 rfl (by kernel_rfl))) rfl ⟨HB.out.grown hg HB.out.size (by intro j hj; cases hj; exact Nat.le_refl _), Or.inl ⟨d, y, HM.out, rfl⟩⟩
  · have HM := Lib.hid hn
    have hb2 := HB1.out.alloc (.cells #[.string ⟨#[]⟩, .bool false, .bool false] 36)
    have HD := Lib.hid (below_alloc' HB.out (.cells #[.string ⟨#[]⟩, .bool false, .bool false] 36))
    obtain ⟨⟨⟨v0, p0⟩, f0⟩, ⟨⟨v1, p1⟩, f1⟩, ⟨⟨v2, p2⟩, f2⟩, hk, g0⟩ := st3 hb2 0 (by decide) (.string ⟨#[]⟩) (.bool false) (.bool false)
    simp only [Nat.reduceAdd] at p1 f1 p2 f2 hk g0
    have HKK := Lib.hid hk
    have HG := Lib.hid g0
    clear hk g0 HB1 hn hb2
    go_wp2
    obtain ⟨Y, hY⟩ : ∃ Y, Y = ((((w1.alloc (.cells #[.string ⟨#[]⟩, .bool false, .bool false] 36)).setCell ⟨w.heap.size, 0, none⟩ (.string ⟨#[]⟩)).setCell ⟨w.heap.size, 1, none⟩ (.bool false)).setCell ⟨w.heap.size, 2, none⟩ (.bool false)) := ⟨_, rfl⟩
    have hk := HKK.out
    have hg := HG.out
    rw [← hY] at hk hg ⊢
    exact bodyPost_ret (results_cs rfl _ _ w.heap.size #[.string ⟨#[]⟩, .bool false, .bool false] _ rfl rfl (run_loadVar_row _ _ _ _ #[.string ⟨#[]⟩, .bool false, .bool false] (0, 0) _ hk Try.underlying36 rfl (by kernel_rfl))) rfl ⟨HD.out.grown hg HD.out.size (by intro j hj; cases hj; exact Nat.le_refl _), Or.inr ⟨HM.out, rfl⟩⟩
theorem taSignature (v : Value) (W : World) : Sem.run Try.prog (Instr.typeAssert (.iface 32 v) 66 32 false) W = .ok v W := by kernel_rfl
theorem lkSignature (s : ByteArray) (w : World) {e : Ending} {w' : World} (h : LkPost 1 s w e w') : Below w.heap.size w w' ∧ ((∃ d y, (s, d, y) ∈ tabSignature ∧ e = .returned (.tuple #[.iface 32 (three s d y), .bool true])) ∨ ((∀ p ∈ tabSignature, p.1 ≠ s) ∧ e = .returned (.tuple #[.nilIface, .bool false]))) := by
  obtain ⟨hB, h⟩ := h
  refine ⟨hB, ?_⟩
  rcases h with ⟨T, v, hl, rfl⟩ | ⟨hn, rfl⟩
  · refine Or.inl ?_
    rcases (reg_iff s _).1 hl with ⟨d, hm, h⟩ | ⟨d, y, hm, h⟩ | ⟨d, y, hm, h⟩
    all_goals
      obtain ⟨hk, rfl, rfl⟩ := ent_inj h
      first | exact absurd hk (by decide) | exact ⟨_, hm, rfl⟩ | exact ⟨_, _, hm, rfl⟩
  · refine Or.inr ⟨?_, rfl⟩
    rintro ⟨t, d, y⟩ hp rfl
    exact hn _ _ ((reg_iff t _).2 (Or.inr (Or.inr ⟨d, y, hp, rfl⟩)))
set_option maxRecDepth 100000 in
set_option maxHeartbeats 1000000 in
theorem LookupSignature_calls (w : World) (s : ByteArray) : Calls Try.prog 11 #[.string s] w (Found3 tabSignature s w) := by
  have HK := Lib.hid (lookupAlgorithm_calls (w.alloc (.cells #[.string ⟨#[]⟩, .bool false, .bool false] 32)) 1 s)
  have HN := Lib.hid (Blk.new w 32 #[.string ⟨#[]⟩, .bool false, .bool false])
  have hta := fun v W => taSignature v W
  go_enter Try.func11, Try.ntmps11
  go_wp2_with fail
  refine HK.out.mono ?_
  rintro e w1 he
  obtain ⟨hB, hc⟩ := lkSignature s _ he
  have HB := Lib.hid (below_then (below_alloc' (Below.refl w.heap.size w) _) hB)
  have HB1 := Lib.hid (HN.out.below hB HN.out.lt)
  clear he hB HK HN
  rcases hc with ⟨d, y, hm, rfl⟩ | ⟨hn, rfl⟩
  · have HM := Lib.hid hm
    obtain ⟨⟨⟨v0, p0⟩, f0⟩, ⟨⟨v1, p1⟩, f1⟩, ⟨⟨v2, p2⟩, f2⟩, hk, g0⟩ := st3 HB1.out 0 (by decide) (.string s) (.bool d) (.bool y)
    simp only [Nat.reduceAdd] at p1 f1 p2 f2 hk g0
    have HKK := Lib.hid hk
    have HG := Lib.hid g0
    clear hk g0 HB1 hm
    go_wp2
    obtain ⟨Y, hY⟩ : ∃ Y, Y = (((w1.setCell ⟨w.heap.size, 0, none⟩ (.string s)).setCell ⟨w.heap.size, 1, none⟩ (.bool d)).setCell ⟨w.heap.size, 2, none⟩ (.bool y)) := ⟨_, rfl⟩
    have hk := HKK.out
    have hg := HG.out
    rw [← hY] at hk hg ⊢
    exact bodyPost_ret (results_cs rfl _ _ w.heap.size #[.string s, .bool d, .bool y] _ rfl rfl (run_loadVar_row _ _ _ _ #[.string s, .bool d, .bool y] (0, 0) _ hk Try.underlying32 rfl (by kernel_rfl))) rfl ⟨HB.out.grown hg HB.out.size (by intro j hj; cases hj; exact Nat.le_refl _), Or.inl ⟨d, y, HM.out, rfl⟩⟩
  · have HM := Lib.hid hn
    have hb2 := HB1.out.alloc (.cells #[.string ⟨#[]⟩, .bool false, .bool false] 32)
    have HD := Lib.hid (below_alloc' HB.out (.cells #[.string ⟨#[]⟩, .bool false, .bool false] 32))
    obtain ⟨⟨⟨v0, p0⟩, f0⟩, ⟨⟨v1, p1⟩, f1⟩, ⟨⟨v2, p2⟩, f2⟩, hk, g0⟩ := st3 hb2 0 (by decide) (.string ⟨#[]⟩) (.bool false) (.bool false)
    simp only [Nat.reduceAdd] at p1 f1 p2 f2 hk g0
    have HKK := Lib.hid hk
    have HG := Lib.hid g0
    clear hk g0 HB1 hn hb2
    go_wp2
    obtain ⟨Y, hY⟩ : ∃ Y, Y = ((((w1.alloc (.cells #[.string ⟨#[]⟩, .bool false, .bool false] 32)).setCell ⟨w.heap.size, 0, none⟩ (.string ⟨#[]⟩)).setCell ⟨w.heap.size, 1, none⟩ (.bool false)).setCell ⟨w.heap.size, 2, none⟩ (.bool false)) := ⟨_, rfl⟩
    have hk := HKK.out
    have hg := HG.out
    rw [← hY] at hk hg ⊢
    exact bodyPost_ret (results_cs rfl _ _ w.heap.size #[.string ⟨#[]⟩, .bool false, .bool false] _ rfl rfl (run_loadVar_row _ _ _ _ #[.string ⟨#[]⟩, .bool false, .bool false] (0, 0) _ hk Try.underlying32 rfl (by kernel_rfl))) rfl ⟨HD.out.grown hg HD.out.size (by intro j hj; cases hj; exact Nat.le_refl _), Or.inr ⟨HM.out, rfl⟩⟩
theorem ents2_some {tb : List (ByteArray × Bool)} {s : ByteArray} {v : Value} (h : lookL (ents2 tb) s = some v) : ∃ d, (s, d) ∈ tb ∧ v = two s d := by
  obtain ⟨p, hp, e⟩ := List.mem_map.1 (lookL_some h)
  injection e with e1 e2
  obtain ⟨t, d⟩ := p
  simp only at e1
  subst e1
  exact ⟨d, hp, e2.symm⟩
theorem ents2_none {tb : List (ByteArray × Bool)} {s : ByteArray} (h : lookL (ents2 tb) s = none) : ∀ p ∈ tb, p.1 ≠ s := by
  intro p hp
  exact lookL_none.1 h (p.1, two p.1 p.2) (List.mem_map.2 ⟨p, hp, rfl⟩)
theorem zeroCompression_ (W : World) : (zeroValue 43).run Try.prog W = .ok (.agg #[.string ⟨#[]⟩, .bool false]) W := by kernel_rfl
set_option maxRecDepth 100000 in
set_option maxHeartbeats 1000000 in
theorem LookupCompression_calls (w : World) (s : ByteArray) : Calls Try.prog 22 #[.string s] w (Found2 tabCompression s w) := by
  have HK := Lib.hid (allCompressionAlgorithm_calls (w.alloc (.cells #[.string ⟨#[]⟩, .bool false] 43)))
  have HN := Lib.hid (Blk.new w 43 #[.string ⟨#[]⟩, .bool false])
  obtain ⟨r, t, d, hr, ht⟩ : ∃ r t d, lookL (ents2 tabCompression) s = r ∧ ((r = some (two t d) ∧ t = s ∧ (s, d) ∈ tabCompression) ∨ (r = none ∧ t = ⟨#[]⟩ ∧ d = false ∧ ∀ p ∈ tabCompression, p.1 ≠ s)) := by
    rcases h : lookL (ents2 tabCompression) s with _ | v
    · exact ⟨_, _, _, rfl, Or.inr ⟨rfl, rfl, rfl, ents2_none h⟩⟩
    · obtain ⟨d, hm, rfl⟩ := ents2_some h
      exact ⟨_, s, d, rfl, Or.inl ⟨rfl, rfl, hm⟩⟩
  have hlk0 : r.getD (.agg #[.string ⟨#[]⟩, .bool false]) = .agg #[.string t, .bool d] := by
    rcases ht with ⟨rfl, _⟩ | ⟨rfl, rfl, rfl, _⟩ <;> rfl
  obtain ⟨ok, hok⟩ : ∃ ok, ok = r.isSome := ⟨_, rfl⟩
  have HR := Lib.hid (And.intro hr (And.intro hlk0 hok))
  have HT := Lib.hid ht
  clear hr hlk0 hok ht
  go_enter Try.func22, Try.ntmps22
  go_wp2_with fail
  refine HK.out.mono ?_
  rintro e w1 ⟨m, rfl, hm, hB, hM⟩
  have hlk := run_look Try.underlying70 Try.underlying9 w1 m _ hM s _ (zeroCompression_ w1)
  rw [HR.out.1, HR.out.2.1, ← HR.out.2.2] at hlk
  have HB := Lib.hid (below_then (below_alloc' (Below.refl w.heap.size w) _) hB)
  have hb2 := (HN.out.below hB HN.out.lt).alloc (.cells #[.string t, .bool d] 43)
  have HD := Lib.hid (below_alloc' HB.out (.cells #[.string t, .bool d] 43))
  obtain ⟨⟨⟨v0, p0⟩, f0⟩, ⟨⟨v1, p1⟩, f1⟩, hk, g0⟩ := st2 hb2 0 (by decide) (.string t) (.bool d)
  simp only [Nat.reduceAdd] at p1 f1 hk g0
  have HKK := Lib.hid hk
  have HG := Lib.hid g0
  clear hk g0 hb2 hM hB hm HK
  go_wp2
  obtain ⟨Y, hY⟩ : ∃ Y, Y = (((w1.alloc (.cells #[.string t, .bool d] 43)).setCell ⟨w.heap.size, 0, none⟩ (.string t)).setCell ⟨w.heap.size, 1, none⟩ (.bool d)) := ⟨_, rfl⟩
  have hk := HKK.out
  have hg := HG.out
  rw [← hY] at hk hg ⊢
  refine bodyPost_ret (results_cs rfl _ _ w.heap.size #[.string t, .bool d] _ rfl rfl (run_loadVar_row _ _ _ _ #[.string t, .bool d] (0, 0) _ hk Try.underlying43 rfl (by kernel_rfl))) rfl ⟨HD.out.grown hg HD.out.size (by intro j hj; cases hj; exact Nat.le_refl _), ?_⟩
  have hok := HR.out.2.2
  rcases HT.out with ⟨h1, rfl, hm⟩ | ⟨h1, rfl, rfl, hn⟩
  · rw [h1] at hok
    exact Or.inl ⟨d, hm, by rw [hok]; rfl⟩
  · rw [h1] at hok
    exact Or.inr ⟨hn, by rw [hok]; rfl⟩
theorem zeroEllipticCurve_ (W : World) : (zeroValue 46).run Try.prog W = .ok (.agg #[.string ⟨#[]⟩, .bool false]) W := by kernel_rfl
set_option maxRecDepth 100000 in
set_option maxHeartbeats 1000000 in
theorem LookupEllipticCurve_calls (w : World) (s : ByteArray) : Calls Try.prog 25 #[.string s] w (Found2 tabEllipticCurve s w) := by
  have HK := Lib.hid (allEllipticCurveAlgorithm_calls (w.alloc (.cells #[.string ⟨#[]⟩, .bool false] 46)))
  have HN := Lib.hid (Blk.new w 46 #[.string ⟨#[]⟩, .bool false])
  obtain ⟨r, t, d, hr, ht⟩ : ∃ r t d, lookL (ents2 tabEllipticCurve) s = r ∧ ((r = some (two t d) ∧ t = s ∧ (s, d) ∈ tabEllipticCurve) ∨ (r = none ∧ t = ⟨#[]⟩ ∧ d = false ∧ ∀ p ∈ tabEllipticCurve, p.1 ≠ s)) := by
    rcases h : lookL (ents2 tabEllipticCurve) s with _ | v
    · exact ⟨_, _, _, rfl, Or.inr ⟨rfl, rfl, rfl, ents2_none h⟩⟩
    · obtain ⟨d, hm, rfl⟩ := ents2_some h
      exact ⟨_, s, d, rfl, Or.inl ⟨rfl, rfl, hm⟩⟩
  have hlk0 : r.getD (.agg #[.string ⟨#[]⟩, .bool false]) = .agg #[.string t, .bool d] := by
    rcases ht with ⟨rfl, _⟩ | ⟨rfl, rfl, rfl, _⟩ <;> rfl
  obtain ⟨ok, hok⟩ : ∃ ok, ok = r.isSome := ⟨_, rfl⟩
  have HR := Lib.hid (And.intro hr (And.intro hlk0 hok))
  have HT := Lib.hid ht
  clear hr hlk0 hok ht
  go_enter Try.func25, Try.ntmps25
  go_wp2_with fail
  refine HK.out.mono ?_
  rintro e w1 ⟨m, rfl, hm, hB, hM⟩
  have hlk := run_look Try.underlying72 Try.underlying9 w1 m _ hM s _ (zeroEllipticCurve_ w1)
  rw [HR.out.1, HR.out.2.1, ← HR.out.2.2] at hlk
  have HB := Lib.hid (below_then (below_alloc' (Below.refl w.heap.size w) _) hB)
  have hb2 := (HN.out.below hB HN.out.lt).alloc (.cells #[.string t, .bool d] 46)
  have HD := Lib.hid (below_alloc' HB.out (.cells #[.string t, .bool d] 46))
  obtain ⟨⟨⟨v0, p0⟩, f0⟩, ⟨⟨v1, p1⟩, f1⟩, hk, g0⟩ := st2 hb2 0 (by decide) (.string t) (.bool d)
  simp only [Nat.reduceAdd] at p1 f1 hk g0
  have HKK := Lib.hid hk
  have HG := Lib.hid g0
  clear hk g0 hb2 hM hB hm HK
  go_wp2
  obtain ⟨Y, hY⟩ : ∃ Y, Y = (((w1.alloc (.cells #[.string t, .bool d] 46)).setCell ⟨w.heap.size, 0, none⟩ (.string t)).setCell ⟨w.heap.size, 1, none⟩ (.bool d)) := ⟨_, rfl⟩
  have hk := HKK.out
  have hg := HG.out
  rw [← hY] at hk hg ⊢
  refine bodyPost_ret (results_cs rfl _ _ w.heap.size #[.string t, .bool d] _ rfl rfl (run_loadVar_row _ _ _ _ #[.string t, .bool d] (0, 0) _ hk Try.underlying46 rfl (by kernel_rfl))) rfl ⟨HD.out.grown hg HD.out.size (by intro j hj; cases hj; exact Nat.le_refl _), ?_⟩
  have hok := HR.out.2.2
  rcases HT.out with ⟨h1, rfl, hm⟩ | ⟨h1, rfl, rfl, hn⟩
  · rw [h1] at hok
    exact Or.inl ⟨d, hm, by rw [hok]; rfl⟩
  · rw [h1] at hok
    exact Or.inr ⟨hn, by rw [hok]; rfl⟩
theorem zeroKeyType_ (W : World) : (zeroValue 49).run Try.prog W = .ok (.agg #[.string ⟨#[]⟩, .bool false]) W := by kernel_rfl
set_option maxRecDepth 100000 in
set_option maxHeartbeats 1000000 in
theorem LookupKeyType_calls (w : World) (s : ByteArray) : Calls Try.prog 28 #[.string s] w (Found2 tabKeyType s w) := by
  have HK := Lib.hid (allKeyType_calls (w.alloc (.cells #[.string ⟨#[]⟩, .bool false] 49)))
  have HN := Lib.hid (Blk.new w 49 #[.string ⟨#[]⟩, .bool false])
  obtain ⟨r, t, d, hr, ht⟩ : ∃ r t d, lookL (ents2 tabKeyType) s = r ∧ ((r = some (two t d) ∧ t = s ∧ (s, d) ∈ tabKeyType) ∨ (r = none ∧ t = ⟨#[]⟩ ∧ d = false ∧ ∀ p ∈ tabKeyType, p.1 ≠ s)) := by
    rcases h : lookL (ents2 tabKeyType) s with _ | v
    · exact ⟨_, _, _, rfl, Or.inr ⟨rfl, rfl, rfl, ents2_none h⟩⟩
    · obtain ⟨d, hm, rfl⟩ := ents2_some h
      exact ⟨_, s, d, rfl, Or.inl ⟨rfl, rfl, hm⟩⟩
  have hlk0 : r.getD (.agg #[.string ⟨#[]⟩, .bool false]) = .agg #[.string t, .bool d] := by
    rcases ht with ⟨rfl, _⟩ | ⟨rfl, rfl, rfl, _⟩ <;> rfl
  obtain ⟨ok, hok⟩ : ∃ ok, ok = r.isSome := ⟨_, rfl⟩
  have HR := Lib.hid (And.intro hr (And.intro hlk0 hok))
  have HT := Lib.hid ht
  clear hr hlk0 hok ht
  go_enter Try.func28, Try.ntmps28
  go_wp2_with fail
  refine HK.out.mono ?_
  rintro e w1 ⟨m, rfl, hm, hB, hM⟩
  have hlk := run_look Try.underlying74 Try.underlying9 w1 m _ hM s _ (zeroKeyType_ w1)
  rw [HR.out.1, HR.out.2.1, ← HR.out.2.2] at hlk
  have HB := Lib.hid (below_then (below_alloc' (Below.refl w.heap.size w) _) hB)
  have hb2 := (HN.out.below hB HN.out.lt).alloc (.cells #[.string t, .bool d] 49)
  have HD := Lib.hid (below_alloc' HB.out (.cells #[.string t, .bool d] 49))
  obtain ⟨⟨⟨v0, p0⟩, f0⟩, ⟨⟨v1, p1⟩, f1⟩, hk, g0⟩ := st2 hb2 0 (by decide) (.string t) (.bool d)
  simp only [Nat.reduceAdd] at p1 f1 hk g0
  have HKK := Lib.hid hk
  have HG := Lib.hid g0
  clear hk g0 hb2 hM hB hm HK
  go_wp2
  obtain ⟨Y, hY⟩ : ∃ Y, Y = (((w1.alloc (.cells #[.string t, .bool d] 49)).setCell ⟨w.heap.size, 0, none⟩ (.string t)).setCell ⟨w.heap.size, 1, none⟩ (.bool d)) := ⟨_, rfl⟩
  have hk := HKK.out
  have hg := HG.out
  rw [← hY] at hk hg ⊢
  refine bodyPost_ret (results_cs rfl _ _ w.heap.size #[.string t, .bool d] _ rfl rfl (run_loadVar_row _ _ _ _ #[.string t, .bool d] (0, 0) _ hk Try.underlying49 rfl (by kernel_rfl))) rfl ⟨HD.out.grown hg HD.out.size (by intro j hj; cases hj; exact Nat.le_refl _), ?_⟩
  have hok := HR.out.2.2
  rcases HT.out with ⟨h1, rfl, hm⟩ | ⟨h1, rfl, rfl, hn⟩
  · rw [h1] at hok
    exact Or.inl ⟨d, hm, by rw [hok]; rfl⟩
  · rw [h1] at hok
    exact Or.inr ⟨hn, by rw [hok]; rfl⟩
end Go.Proofs.Ytenneobgjalfhaa.Nm
