/- The walk of KeyRun; the conditions are on what lies in memory. -/
import Derived.Test.YtlbnemnadegapaaDoorKyRun2
set_option linter.unusedVariables false
set_option linter.unusedSimpArgs false
namespace Go.Proofs.YtlbnemnadegapaaDoor.Ky
open Go.RowKit Go.Proofs.YtlbnemnadegapaaDoor.K Go.Proofs.YtlbnemnadegapaaDoor.Nm
/-- The keys that have been made: their blocks, each with its ID. -/
def Made (w : World) (p : Nat) (ds : List KD) (Ks : List Nat) : Prop := Ks.Nodup ∧ KeysAt w (p + 1) p Ks ∧ Ks.length ≤ ds.length ∧ ∀ i (h : i < Ks.length), ∃ d, ds[i]? = some d ∧ KeyId w Ks[i] (idOf d)
section
variable {w w' : World} {p : Nat} {ds : List KD} {Ks : List Nat}
theorem KeyId.below {x : Nat} {id : Option ByteArray} (h : KeyId w x id) (hb : Below w.heap.size w w') : KeyId w' x id := h.keep fun j T cs hj _ => hj.below hb hj.lt
theorem KeyId.lt {x : Nat} {id : Option ByteArray} (h : KeyId w x id) : x < w.heap.size := by obtain ⟨cs, q, h1, _⟩ := h; exact h1.lt
theorem Made.below (h : Made w p ds Ks) (hb : Below w.heap.size w w') : Made w' p ds Ks :=
  ⟨h.1, h.2.1.below (B := 0) hb, h.2.2.1, fun i hi => by obtain ⟨d, h1, h2⟩ := h.2.2.2 i hi; exact ⟨d, h1, h2.below hb⟩⟩
theorem Made.fr (h : Made w p ds Ks) (hb : Fr badVK w w') (hk : KeysAt w' (p + 1) p Ks) : Made w' p ds Ks :=
  ⟨h.1, hk, h.2.2.1, fun i hi => by obtain ⟨d, h1, h2⟩ := h.2.2.2 i hi; exact ⟨d, h1, h2.keep fun j T cs hj hT => hb.blk hj (by rcases hT with rfl | rfl <;> unfold badVK <;> decide)⟩⟩
/-- What stands before a new key goes into the row. -/
def Ready (w0 : World) (p : Nat) (ds : List KD) (Ks : List Nat) (x : Nat) (w : World) (A : Option Addr) (n c : Nat) (A' : Option Addr) (n' c' : Nat) (w7 : World) : Prop :=
  Made (w7.setCell ⟨p, 0, none⟩ (.slice A' n' c')) p ds (Ks ++ [x]) ∧ Below w0.heap.size w0 (w7.setCell ⟨p, 0, none⟩ (.slice A' n' c')) ∧
    Sem.run Tryd.prog (Builtin.append_ #[84, 84] 84 #[.slice A n c, .slice (some ⟨w.heap.size, 0, none⟩) 1 1]) (w.alloc (.cells #[keyV x] 87)) = .ok (.slice A' n' c') w7
theorem ready {w0 wr : World} (h : Made wr p ds Ks) (hb : Below wr.heap.size wr w) (h0 : Below w0.heap.size w0 wr) (hp : w0.heap.size ≤ p) (hlt : p + 1 ≤ wr.heap.size) (x : Nat) (hx : wr.heap.size ≤ x) (hl : Ks.length < ds.length) (h20 : ds.length ≤ 20) (d : KD) (hd : ds[Ks.length]? = some d) (hid : KeyId w x (idOf d)) :
    ∃ A n c A' n' c' w7, w.cell? ⟨p, 0, none⟩ = some (.slice A n c) ∧ w7.cell? ⟨p, 0, none⟩ = some (.slice A n c) ∧ w7.frozen? ⟨p, 0, none⟩ = false ∧ Ready w0 p ds Ks x w A n c A' n' c' w7 := by
  have h1 := h.below hb
  have hws := hb.size
  obtain ⟨A, n, c, A', n', c', w7, e1, e2, e3, e4, e5, e6, e7⟩ := add_key (base := w0.heap.size) h1.2.1 x (by omega) (by omega) hp (by omega)
  refine ⟨A, n, c, A', n', c', w7, e1, e3, e4, ⟨?_, e5, by simp; omega, fun i hi => ?_⟩, (h0.trans (hb.mono h0.size)).trans e7, e2⟩
  · rw [List.nodup_append]
    refine ⟨h.1, by simp, fun a ha b hb' e => ?_⟩
    obtain ⟨i, hi, rfl⟩ := List.getElem_of_mem ha
    obtain ⟨d', _, hd'⟩ := h.2.2.2 i hi
    have := hd'.lt
    rw [List.mem_singleton.1 hb'] at e
    omega
  · have hk : ∀ {y id}, KeyId w y id → KeyId (w7.setCell ⟨p, 0, none⟩ (.slice A' n' c')) y id := fun hy => hy.keep fun j T cs hj hT => e6.blk hj (by rcases hT with rfl | rfl <;> unfold badVK <;> decide)
    by_cases hi' : i < Ks.length
    · obtain ⟨d', h3, h4⟩ := h1.2.2.2 i hi'
      exact ⟨d', h3, by rw [List.getElem_append_left hi']; exact hk h4⟩
    · obtain rfl : i = Ks.length := by simp at hi; omega
      refine ⟨d, hd, ?_⟩
      rw [List.getElem_append_right (Nat.le_refl _)]
      simpa using hk hid
end
end Go.Proofs.YtlbnemnadegapaaDoor.Ky
