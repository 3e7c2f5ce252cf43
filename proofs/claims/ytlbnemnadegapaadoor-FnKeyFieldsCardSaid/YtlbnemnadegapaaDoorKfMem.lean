/- A symmetric key's fields in memory; the accessors; the conditions are on what lies in memory. -/
import Derived.Test.YtlbnemnadegapaaDoorKyKey
set_option linter.unusedVariables false
set_option linter.unusedSimpArgs false
namespace Go.Proofs.YtlbnemnadegapaaDoor.Kf
open Go.RowKit Go.Proofs.YtlbnemnadegapaaDoor.K Go.Proofs.YtlbnemnadegapaaDoor.Nm Go.Proofs.YtlbnemnadegapaaDoor.Ky
/-- A pointer that is nil, or to a cell. -/
def OptP (w : World) (T : TypeId) (p : Value) : Option Value → Prop
  | none => p = .pointer none
  | some v => ∃ b, p = .pointer (some ⟨b, 0, none⟩) ∧ Blk w b T #[v]
/-- A symmetric key: its algorithm, ID, operations, use; its octets; its map m, which is empty. -/
structure FV where
  alg : Option Value
  kid : Option Value
  ops : Option Value
  use : Option Value
def FKC (w : World) (x m : Nat) (f : FV) (ov : Value) : Prop := ∃ pa pk po pu, Blk w x 144 #[pa, pk, po, pu, ov, .pointer none, .pointer none, .pointer none, .map (some m)] ∧
  OptP w 117 pa f.alg ∧ OptP w 9 pk f.kid ∧ OptP w 112 po f.ops ∧ OptP w 9 pu f.use ∧ MapN (fun _ => False) w m
section
variable {w w' : World} {x m : Nat} {f : FV} {ov : Value}
theorem OptP.below {T : TypeId} {p : Value} {o : Option Value} (h : OptP w T p o) (hb : Below w.heap.size w w') : OptP w' T p o := by
  cases o with
  | none => exact h
  | some v =>
    obtain ⟨b, h1, h2⟩ := h
    exact ⟨b, h1, h2.below hb h2.lt⟩
theorem OptP.fr {bad : TypeId → Prop} {T : TypeId} {p : Value} {o : Option Value} (h : OptP w T p o) (hf : Fr bad w w') (hT : ¬ bad T) : OptP w' T p o := by
  cases o with
  | none => exact h
  | some v =>
    obtain ⟨b, h1, h2⟩ := h
    exact ⟨b, h1, hf.blk h2 hT⟩
theorem FKC.below (h : FKC w x m f ov) (hb : Below w.heap.size w w') : FKC w' x m f ov := by
  obtain ⟨pa, pk, po, pu, h1, h2, h3, h4, h5, h6⟩ := h
  exact ⟨pa, pk, po, pu, h1.below hb h1.lt, h2.below hb, h3.below hb, h4.below hb, h5.below hb, h6.fr (Fr.of_below (bad := fun _ => False) hb)⟩
def vS : Option Value → Value
  | none => .string ⟨#[]⟩
  | some v => v
set_option maxRecDepth 100000 in
theorem KeyID_calls (h : FKC w x m f ov) : Calls Tryd.prog 104 #[.pointer (some ⟨x, 0, none⟩)] w fun e w' => e = .returned (.tuple #[vS f.kid, .bool f.kid.isSome]) ∧ w = w' := by
  obtain ⟨pa, pk, po, pu, h1, h2, h3, h4, h5, h6⟩ := h
  have c1 : w.cell? ⟨x, 1, none⟩ = some pk := by rw [h1.cell]; rfl
  obtain ⟨alg, kid, ops, use⟩ := f
  simp only at h3 ⊢
  clear h1 h2 h4 h5 h6
  cases kid with
  | none =>
    obtain rfl : pk = .pointer none := h3
    go_enter Tryd.func104, Tryd.ntmps104
    go_wp2
    refine bodyPost_ret (v := .tuple #[.string ⟨#[]⟩, .bool false]) (by kernel_rfl) rfl ?_
    exact ⟨rfl, rfl⟩
  | some v =>
    obtain ⟨b, rfl, hb⟩ := h3
    have c2 : w.cell? ⟨b, 0, none⟩ = some v := by rw [hb.cell]; rfl
    clear hb
    go_enter Tryd.func104, Tryd.ntmps104
    go_wp2
    refine bodyPost_ret (v := .tuple #[v, .bool true]) (by kernel_rfl) rfl ?_
    exact ⟨rfl, rfl⟩
end
end Go.Proofs.YtlbnemnadegapaaDoor.Kf
