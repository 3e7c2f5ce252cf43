/- What a symmetric key's fields are, as texts; a step of its fields; the conditions are on what lies in memory. -/
import Derived.Test.YtlbnemnadegapaaDoorKfSet
set_option linter.unusedVariables false
set_option linter.unusedSimpArgs false
namespace Go.Proofs.YtlbnemnadegapaaDoor.Kf
open Go.RowKit Go.Proofs.YtlbnemnadegapaaDoor.K Go.Proofs.YtlbnemnadegapaaDoor.Nm Go.Proofs.YtlbnemnadegapaaDoor.Ky
/-- A key's fields as texts. -/
structure FT where
  alg : Option ByteArray
  kid : Option ByteArray
  ops : Option (List ByteArray)
  use : Option ByteArray
def AlgO : Option ByteArray → Option Value → Prop
  | none, none => True
  | some s, some v => SigV s v
  | _, _ => False
def OpsO (w : World) : Option (List ByteArray) → Option Value → Prop
  | none, none => True
  | some l, some v => ∃ g cs, v = .slice (some ⟨g, 0, none⟩) l.length l.length ∧ Blk w g 145 cs ∧ Fil cs l.length l l.length
  | _, _ => False
/-- A symmetric key in memory: its fields as texts, its octets in a block. -/
def FKT (w : World) (x m : Nat) (t : FT) (o n : Nat) (oc : List UInt8) : Prop := ∃ f, FKC w x m f (.slice (some ⟨o, 0, none⟩) n n) ∧ Blk w o 5 (bys oc).toArray ∧ oc.length = n ∧ AlgO t.alg f.alg ∧ f.kid = t.kid.map .string ∧ OpsO w t.ops f.ops ∧ f.use = t.use.map .string
/-- A step of a key's fields. -/
structure FS where
  A : Option Addr
  n : Nat
  c : Nat
  kind : Nat
  text : ByteArray
  l : List ByteArray
def nKid : ByteArray := ⟨#[107, 105, 100]⟩
def nUse : ByteArray := ⟨#[117, 115, 101]⟩
def nOps : ByteArray := ⟨#[107, 101, 121, 95, 111, 112, 115]⟩
def nAlg : ByteArray := ⟨#[97, 108, 103]⟩
/-- What a step makes of the fields: the kind 4 takes by the number of the field. -/
def SOk (s : FS) : Prop := s.kind = 0 ∨ s.kind = 1 ∨ (s.kind = 2 ∧ (∀ x ∈ s.l, x ∈ ops8) ∧ s.n ≤ 1000) ∨ (s.kind = 3 ∧ IsSig s.text) ∨ (s.kind = 4 ∧ (s.text = nKid ∨ s.text = nUse ∨ s.text = nOps ∨ s.text = nAlg)) ∨ s.kind = 9
def stp (t : FT) (s : FS) : FT :=
  if s.kind = 0 then { t with kid := some s.text } else if s.kind = 1 then { t with use := some s.text } else if s.kind = 2 then { t with ops := some s.l } else if s.kind = 3 then { t with alg := some s.text }
  else if s.kind = 4 then (if s.text = nKid then { t with kid := none } else if s.text = nUse then { t with use := none } else if s.text = nOps then { t with ops := none } else if s.text = nAlg then { t with alg := none } else t) else t
def keyV (x : Nat) : Value := .iface 107 (.pointer (some ⟨x, 0, none⟩))
def fsV (s : FS) : Value := .agg #[.int .i64 (s.kind : Nat), .string s.text, .slice s.A s.n s.c]
theorem blk_ty {w : World} {g : Nat} {T T' : TypeId} {cs cs' : Array Value} (h : Blk w g T cs) (k : Blk w g T' cs') : T = T' := by
  have e : some (Obj.cells cs T) = some (Obj.cells cs' T') := Eq.trans (Eq.symm h) k
  injection e with e
  injection e
section
variable {w w' : World} {x m o n : Nat} {t : FT} {oc : List UInt8}
theorem OpsO.keep {w w' : World} {x : Nat} {cs : Array Value} {l : Option (List ByteArray)} {v : Option Value} (h : OpsO w l v) (hx : Blk w x 144 cs) (hg : KS x w w') : OpsO w' l v := by
  cases l with
  | none => cases v with
    | none => trivial
    | some v => exact h.elim
  | some l => cases v with
    | none => exact h.elim
    | some v =>
      obtain ⟨g, c2, e, hb, hf⟩ := h
      refine ⟨g, c2, e, hb.grown hg (fun e' => ?_), hf⟩
      injection e' with e'
      subst e'
      exact absurd (blk_ty hb hx) (by decide)
theorem FKT.oct (h : FKT w x m t o n oc) (hg : KS x w w') : Blk w' o 5 (bys oc).toArray := by
  obtain ⟨f, h1, h2, _⟩ := h
  obtain ⟨pa, pk, po, pu, hx, _⟩ := h1
  refine h2.grown hg (fun e' => ?_)
  injection e' with e'
  subst e'
  exact absurd (blk_ty h2 hx) (by decide)
theorem FKT.below (h : FKT w x m t o n oc) (hb : Below w.heap.size w w') : FKT w' x m t o n oc := by
  obtain ⟨f, h1, h2, h3, h4, h5, h6, h7⟩ := h
  have hx := h1
  obtain ⟨pa, pk, po, pu, hx, _⟩ := hx
  exact ⟨f, h1.below hb, h2.below hb h2.lt, h3, h4, h5, h6.keep hx ((KS.refl x w).of_below hb), h7⟩
theorem ops_none {v : Option Value} (h : OpsO w none v) : v = none := by cases v with | none => rfl | some v => exact h.elim
end
end Go.Proofs.YtlbnemnadegapaaDoor.Kf
