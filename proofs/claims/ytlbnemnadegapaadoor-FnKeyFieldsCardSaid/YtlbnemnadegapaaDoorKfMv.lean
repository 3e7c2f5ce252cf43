/- Moves of a key's fields: their data in memory, and the steps they are; no condition. -/
import Derived.Test.YtlbnemnadegapaaDoorKfRun
set_option linter.unusedVariables false
set_option linter.unusedSimpArgs false
namespace Go.Proofs.YtlbnemnadegapaaDoor.Kf
open Go.RowKit Go.Proofs.YtlbnemnadegapaaDoor.K Go.Proofs.YtlbnemnadegapaaDoor.Nm Go.Proofs.YtlbnemnadegapaaDoor.Ky
structure FM where
  kind : Int
  at_ : Int
  id : ByteArray
  A : Option Addr
  n : Nat
  c : Nat
  ops : List UInt8
def fm (m : FM) : List Value := [.int .u8 m.kind, .int .u8 m.at_, .string m.id, .slice m.A m.n m.c]
theorem fm_len (m : FM) : (fm m).length = 4 := rfl
def OKf (m : FM) : Prop := (0 ≤ m.kind ∧ m.kind < 256) ∧ (0 ≤ m.at_ ∧ m.at_ < 256)
def FML (w : World) (A : Option Addr) (n : Nat) (ms : List FM) : Prop := Reads w 4 A n (flat fm ms) ∧ ∀ m ∈ ms, OKf m ∧ Reads w 1 m.A m.n (bys m.ops)
section
variable {w w' : World} {A : Option Addr} {n : Nat} {ms : List FM}
theorem FML.len (h : FML w A n ms) : n = ms.length := by have := h.1.1; rw [flat_len fm_len] at this; omega
theorem FML.below {B : Nat} (h : FML w A n ms) (hb : Below B w w') (hB : w.heap.size ≤ B) : FML w' A n ms := ⟨Reads.below h.1 hb hB, fun m hm => ⟨(h.2 m hm).1, (h.2 m hm).2.below hb hB⟩⟩
theorem FML.at_ {j : Nat} (h : FML w A n ms) (hj : j < ms.length) :
    ∃ ad, A = some ad ∧ w.cell? (ad.add (j * 4)) = some (.int .u8 ms[j].kind) ∧ w.cell? ⟨(ad.add (j * 4)).block, (ad.add (j * 4)).off + 1, none⟩ = some (.int .u8 ms[j].at_) ∧ w.cell? ⟨(ad.add (j * 4)).block, (ad.add (j * 4)).off + 2, none⟩ = some (.string ms[j].id) ∧
      w.cell? ⟨(ad.add (j * 4)).block, (ad.add (j * 4)).off + 3, none⟩ = some (.slice ms[j].A ms[j].n ms[j].c) := by
  have hn := h.len
  obtain ⟨ad, rfl, _, hc⟩ := h.1.2 (by omega)
  have g : ∀ i, i < 4 → (flat fm ms)[j * 4 + i]? = (fm ms[j])[i]? := fun i hi => flat_at fm_len ms j i hj hi
  exact ⟨ad, rfl, hc (j * 4) _ (by have := g 0 (by decide); simpa [fm] using this), cell_next (hc (j * 4 + 1) _ (by rw [g 1 (by decide)]; rfl)), cell_next (hc (j * 4 + 2) _ (by rw [g 2 (by decide)]; rfl)), cell_next (hc (j * 4 + 3) _ (by rw [g 3 (by decide)]; rfl))⟩
end
/-- What a step is, without its place in memory. -/
structure FD where
  kind : Nat
  text : ByteArray
  l : List ByteArray
def fsD (s : FS) : FD := ⟨s.kind, s.text, s.l⟩
def names4 : List ByteArray := [nKid, nUse, nOps, nAlg]
def uses2 : List ByteArray := [⟨#[115, 105, 103]⟩, ⟨#[101, 110, 99]⟩]
def std14 : List ByteArray := [⟨#[72, 83, 50, 53, 54]⟩, ⟨#[72, 83, 51, 56, 52]⟩, ⟨#[72, 83, 53, 49, 50]⟩, ⟨#[82, 83, 50, 53, 54]⟩, ⟨#[82, 83, 51, 56, 52]⟩, ⟨#[82, 83, 53, 49, 50]⟩, ⟨#[69, 83, 50, 53, 54]⟩, ⟨#[69, 83, 51, 56, 52]⟩, ⟨#[69, 83, 53, 49, 50]⟩, ⟨#[80, 83, 50, 53, 54]⟩, ⟨#[80, 83, 51, 56, 52]⟩, ⟨#[80, 83, 53, 49, 50]⟩, ⟨#[69, 100, 68, 83, 65]⟩, ⟨#[110, 111, 110, 101]⟩]
def pickT (l : List ByteArray) (i : Int) : ByteArray := l.getD i.toNat ⟨#[]⟩
open Classical in
noncomputable def addO (l : List ByteArray) (b : UInt8) : List ByteArray := if pickT ops8 (b.toNat % 8 : Nat) ∈ l then l else l ++ [pickT ops8 (b.toNat % 8 : Nat)]
noncomputable def opsO (l : List UInt8) : List ByteArray := l.foldl addO []
open Classical in
noncomputable def opsD (l : List UInt8) : List ByteArray := if opsO l = [] then [pickT ops8 0] else opsO l
noncomputable def mvD (m : FM) : FD :=
  if m.kind % 5 = 0 then ⟨0, m.id, []⟩ else if m.kind % 5 = 1 then ⟨1, pickT uses2 (m.at_ % 2), []⟩ else if m.kind % 5 = 2 then ⟨2, ⟨#[]⟩, opsD m.ops⟩ else if m.kind % 5 = 3 then ⟨3, pickT std14 (m.at_ % 14), []⟩ else ⟨4, pickT names4 (m.at_ % 4), []⟩
theorem pick_mem {l : List ByteArray} {i : Int} (h : i.toNat < l.length) : pickT l i ∈ l := by
  unfold pickT
  rw [List.getD_eq_getElem?_getD, List.getElem?_eq_getElem h]
  exact List.getElem_mem _
theorem addO_len (l : List ByteArray) (b : UInt8) : (addO l b).length ≤ l.length + 1 := by unfold addO; split <;> simp
theorem addO_in {l : List ByteArray} (h : ∀ x ∈ l, x ∈ ops8) (b : UInt8) : ∀ x ∈ addO l b, x ∈ ops8 := by
  have hp : pickT ops8 (b.toNat % 8 : Nat) ∈ ops8 := pick_mem (by show ((b.toNat % 8 : Nat) : Int).toNat < 8; omega)
  unfold addO
  split
  · exact h
  · intro x hx
    rcases List.mem_append.1 hx with hx | hx
    · exact h x hx
    · rw [List.mem_singleton.1 hx]; exact hp
theorem foldO : ∀ (l : List UInt8) (a : List ByteArray), (∀ x ∈ a, x ∈ ops8) → (∀ x ∈ l.foldl addO a, x ∈ ops8) ∧ (l.foldl addO a).length ≤ a.length + l.length
  | [], a, h => ⟨h, by simp⟩
  | b :: r, a, h => by
    have := foldO r (addO a b) (addO_in h b)
    have h2 := addO_len a b
    rw [List.foldl_cons, List.length_cons]
    exact ⟨this.1, by omega⟩
theorem opsO_in (l : List UInt8) : ∀ x ∈ opsO l, x ∈ ops8 := (foldO l [] (by simp)).1
theorem opsO_len (l : List UInt8) : (opsO l).length ≤ l.length := by have := (foldO l [] (by simp)).2; simpa [opsO] using this
theorem opsO_snoc (l : List UInt8) (j : Nat) (h : j < l.length) : opsO (l.take (j + 1)) = addO (opsO (l.take j)) l[j] := by
  unfold opsO
  rw [List.take_add_one, List.getElem?_eq_getElem h, List.foldl_append]; rfl
theorem opsD_in (l : List UInt8) : ∀ x ∈ opsD l, x ∈ ops8 := by
  unfold opsD
  split
  · intro x hx; rw [List.mem_singleton.1 hx]; exact pick_mem (by decide)
  · exact opsO_in l
theorem std_sig : ∀ x ∈ std14, IsSig x := by
  have h : ∀ x ∈ std14, ((Nq.tabSignature.any fun p => decide (p.1 = x)) = true) := by decide
  intro x hx
  obtain ⟨⟨s, d, y⟩, hp, e⟩ := List.any_eq_true.1 (h x hx)
  obtain rfl : s = x := of_decide_eq_true e
  exact ⟨d, y, (Nq.reg_iff _ _).2 (.inr (.inr ⟨d, y, hp, rfl⟩))⟩
theorem names_or : ∀ x ∈ names4, x = nKid ∨ x = nUse ∨ x = nOps ∨ x = nAlg := by
  intro x hx
  simpa [names4] using hx
end Go.Proofs.YtlbnemnadegapaaDoor.Kf
