/- Walks of lookupAlgorithm and the six Lookups; no condition. -/
import Derived.Test.YtlbnemnadegapaaDoorNqReg
set_option linter.unusedVariables false
set_option linter.unusedSimpArgs false
namespace Go.Proofs.YtlbnemnadegapaaDoor.Nq
open Go.RowKit Go.Proofs.YtlbnemnadegapaaDoor.K
theorem lookL_some {L : List (ByteArray × Value)} {s : ByteArray} {v : Value} (h : lookL L s = some v) : (s, v) ∈ L := by
  unfold lookL at h
  obtain ⟨p, hp, rfl⟩ := Option.map_eq_some_iff.1 h
  have h1 := List.find?_some hp
  simp only [decide_eq_true_eq] at h1
  rw [← h1]
  exact List.mem_of_find?_eq_some hp
theorem lookL_mem {s : ByteArray} {v : Value} : ∀ {L : List (ByteArray × Value)}, (L.map (·.1)).Nodup → (s, v) ∈ L → lookL L s = some v
  | [], _, h => by cases h
  | p :: L, hd, h => by
    rw [List.map_cons, List.nodup_cons] at hd
    rcases List.mem_cons.1 h with rfl | h
    · simp [lookL]
    · have hne : p.1 ≠ s := fun e => hd.1 (List.mem_map.2 ⟨_, h, e.symm⟩)
      have := lookL_mem hd.2 h
      simpa [lookL, hne] using this
def IsCE (s : ByteArray) (e : Value) : Prop := ∃ d, (s, d) ∈ tabContentEncryption ∧ e = ent 3 159 (two s d)
def IsKE (s : ByteArray) (e : Value) : Prop := ∃ d y, (s, d, y) ∈ tabKeyEncryption ∧ e = ent 2 157 (three s d y)
def IsSI (s : ByteArray) (e : Value) : Prop := ∃ d y, (s, d, y) ∈ tabSignature ∧ e = ent 1 156 (three s d y)
theorem reg_mem (s : ByteArray) (e : Value) : (s, e) ∈ regTab ↔ IsCE s e ∨ IsKE s e ∨ IsSI s e := by
  unfold regTab
  rw [List.mem_append, List.mem_append]
  refine or_congr ?_ (or_congr ?_ ?_)
  · rw [List.mem_map]
    constructor
    · rintro ⟨⟨t, d⟩, hp, e1⟩
      injection e1 with e1 e2
      simp only at e1
      subst e1
      exact ⟨d, hp, e2.symm⟩
    · rintro ⟨d, hp, rfl⟩
      exact ⟨_, hp, rfl⟩
  · rw [List.mem_map]
    constructor
    · rintro ⟨⟨t, d, y⟩, hp, e1⟩
      injection e1 with e1 e2
      simp only at e1
      subst e1
      exact ⟨d, y, hp, e2.symm⟩
    · rintro ⟨d, y, hp, rfl⟩
      exact ⟨_, hp, rfl⟩
  · rw [List.mem_map]
    constructor
    · rintro ⟨⟨t, d, y⟩, hp, e1⟩
      injection e1 with e1 e2
      simp only at e1
      subst e1
      exact ⟨d, y, hp, e2.symm⟩
    · rintro ⟨d, y, hp, rfl⟩
      exact ⟨_, hp, rfl⟩
theorem reg_iff (s : ByteArray) (e : Value) : lookL regTab s = some e ↔ IsCE s e ∨ IsKE s e ∨ IsSI s e :=
  ⟨fun h => (reg_mem s e).1 (lookL_some h), fun h => lookL_mem nodupReg ((reg_mem s e).2 h)⟩
theorem zero_ent (W : World) : (zeroValue 169).run Tryd.prog W = .ok (.agg #[.int .u8 0, .nilIface, .bool false]) W := by kernel_rfl
def LkPost (k : Int) (s : ByteArray) (w : World) (e : Ending) (w' : World) : Prop :=
  Below w.heap.size w w' ∧ ((∃ T v, lookL regTab s = some (ent k T v) ∧ e = .returned (.tuple #[.iface T v, .bool true])) ∨ ((∀ T v, lookL regTab s ≠ some (ent k T v)) ∧ e = .returned (.tuple #[.nilIface, .bool false])))
theorem ent_inj {k k' : Int} {T T' : TypeId} {v v' : Value} (h : ent k T v = ent k' T' v') : k = k' ∧ T = T' ∧ v = v' := by
  unfold ent at h
  simp only [Value.agg.injEq] at h
  simp at h
  exact h
end Go.Proofs.YtlbnemnadegapaaDoor.Nq
