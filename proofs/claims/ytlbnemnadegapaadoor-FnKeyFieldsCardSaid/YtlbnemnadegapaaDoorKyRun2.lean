/- The keys of KeyRun: data of keys in memory, one more key in the row; the conditions are on what lies in memory. -/
import Derived.Test.YtlbnemnadegapaaDoorKyKey
import Derived.Test.YtlbnemnadegapaaDoorKyRun1
import Derived.Test.YtlbnemnadegapaaDoorKySort2
set_option linter.unusedVariables false
set_option linter.unusedSimpArgs false
namespace Go.Proofs.YtlbnemnadegapaaDoor.Ky
open Go.RowKit Go.Proofs.YtlbnemnadegapaaDoor.K Go.Proofs.YtlbnemnadegapaaDoor.Nm
/-- The cells of a list of structs. -/
def flat {α : Type} (f : α → List Value) : List α → List Value
  | [] => []
  | a :: r => f a ++ flat f r
section
variable {α : Type} {f : α → List Value} {k : Nat}
theorem flat_len (hf : ∀ a, (f a).length = k) : ∀ l : List α, (flat f l).length = l.length * k
  | [] => by simp [flat]
  | a :: r => by rw [flat, List.length_append, flat_len hf r, hf a, List.length_cons, Nat.add_mul]; omega
theorem flat_at (hf : ∀ a, (f a).length = k) : ∀ (l : List α) (j i : Nat) (h : j < l.length), i < k → (flat f l)[j * k + i]? = (f l[j])[i]?
  | a :: r, 0, i, _, hi => by rw [flat, List.getElem?_append_left (by rw [hf]; omega)]; simp
  | a :: r, j + 1, i, h, hi => by
    rw [flat, List.getElem?_append_right (by rw [hf, Nat.add_mul]; omega)]
    have := flat_at hf r j i (by simpa using h) hi
    rw [show (j + 1) * k + i - (f a).length = j * k + i by rw [hf, Nat.add_mul]; omega]
    simpa using this
theorem flat_app : ∀ a b : List α, flat f (a ++ b) = flat f a ++ flat f b
  | [], b => rfl
  | x :: r, b => by rw [List.cons_append, flat, flat, flat_app r b, List.append_assoc]
end
/-- A key's data as it lies in memory. -/
structure KD where
  A : Addr
  n : Nat
  c : Nat
  l : List UInt8
  has : Bool
  id : ByteArray
def kc (d : KD) : List Value := [.slice (some d.A) d.n d.c, .bool d.has, .string d.id]
theorem kc_len (d : KD) : (kc d).length = 3 := rfl
def KDL (w : World) (A : Option Addr) (n : Nat) (ds : List KD) : Prop := Reads w 3 A n (flat kc ds) ∧ ∀ d ∈ ds, Reads w 1 (some d.A) d.n (bys d.l) ∧ d.l.length = d.n ∧ 0 < d.n ∧ d.n ≤ 8
def idOf (d : KD) : Option ByteArray := if d.has then some d.id else none
section
variable {w w' : World} {A : Option Addr} {n : Nat} {ds : List KD}
theorem KDL.len (h : KDL w A n ds) : n = ds.length := by have := h.1.1; rw [flat_len kc_len] at this; omega
theorem KDL.below {B : Nat} (h : KDL w A n ds) (hb : Below B w w') (hB : w.heap.size ≤ B) : KDL w' A n ds :=
  ⟨h.1.below hb hB, fun d hd => ⟨(h.2 d hd).1.below hb hB, (h.2 d hd).2⟩⟩
theorem KDL.at_ {j : Nat} (h : KDL w A n ds) (hj : j < ds.length) :
    ∃ ad, A = some ad ∧ w.cell? (ad.add (j * 3)) = some (.slice (some ds[j].A) ds[j].n ds[j].c) ∧ w.cell? ⟨(ad.add (j * 3)).block, (ad.add (j * 3)).off + 1, none⟩ = some (.bool ds[j].has) ∧ w.cell? ⟨(ad.add (j * 3)).block, (ad.add (j * 3)).off + 2, none⟩ = some (.string ds[j].id) := by
  have hn := h.len
  obtain ⟨ad, rfl, _, hc⟩ := h.1.2 (by omega)
  have g : ∀ i, i < 3 → (flat kc ds)[j * 3 + i]? = (kc ds[j])[i]? := fun i hi => flat_at kc_len ds j i hj hi
  exact ⟨ad, rfl, hc (j * 3) _ (by have := g 0 (by decide); simpa [kc] using this), cell_next (hc (j * 3 + 1) _ (by rw [g 1 (by decide)]; rfl)), cell_next (hc (j * 3 + 2) _ (by rw [g 2 (by decide)]; rfl))⟩
end
section
variable {w w' : World} {base b0 p : Nat} {Ks : List Nat}
/-- A row of one kind of blocks, or the variable before it. -/
def badVK (T : TypeId) : Prop := T = 84 ∨ T = 87
theorem add_key (h : KeysAt w b0 p Ks) (x : Nat) (hl : Ks.length < 1000) (hb : b0 ≤ w.heap.size) (hp : base ≤ p) (hbase : base ≤ b0) : ∃ A n c A' n' c' w7, w.cell? ⟨p, 0, none⟩ = some (.slice A n c) ∧
    Sem.run Tryd.prog (Builtin.append_ #[84, 84] 84 #[.slice A n c, .slice (some ⟨w.heap.size, 0, none⟩) 1 1]) (w.alloc (.cells #[keyV x] 87)) = .ok (.slice A' n' c') w7 ∧
    w7.cell? ⟨p, 0, none⟩ = some (.slice A n c) ∧ w7.frozen? ⟨p, 0, none⟩ = false ∧ KeysAt (w7.setCell ⟨p, 0, none⟩ (.slice A' n' c')) b0 p (Ks ++ [x]) ∧ Fr badVK w (w7.setCell ⟨p, 0, none⟩ (.slice A' n' c')) ∧ Below base w (w7.setCell ⟨p, 0, none⟩ (.slice A' n' c')) := by
  obtain ⟨i0, hi, hz0, hz1, hz2⟩ := info_parts infoKey
  obtain ⟨v, h1, h2⟩ := h
  obtain ⟨A, c, rfl, _, _⟩ := h2.len
  have hkl : (Ks.map keyV).length = Ks.length := by simp
  have hc1 : (w.alloc (.cells #[keyV x] 87)).cell? ⟨w.heap.size, 0, none⟩ = some (keyV x) := by rw [(Blk.new w 87 #[keyV x]).cell]; rfl
  obtain ⟨v', w7, hrun, hKL2, hfr, hbel⟩ := KL.append 84 84 i0 .nilIface 16 Tryd.underlying84 hi hz0 hz1 hz2 rfl (h2.alloc (.cells #[keyV x] 87)) (keyV x) rfl ⟨w.heap.size, 0, none⟩ 1 hc1 (by rw [hkl]; unfold maxLen; omega) (by rw [hkl]; omega) (Nat.le_trans hb (by simp))
  obtain ⟨A', c', rfl, _, _⟩ := hKL2.len
  have hb2 : Blk w7 p 84 #[.slice A (Ks.map keyV).length c] := hfr.blk (h1.alloc _) (by decide)
  refine ⟨A, _, c, A', _, c', w7, by rw [h1.cell]; rfl, hrun, by rw [hb2.cell]; rfl, hb2.frozen 0, ⟨_, hb2.set_ 0 _, by rw [List.map_append]; exact hKL2.setCell hb2 (by decide) _⟩, ?_, ?_⟩
  · exact ((Fr.alloc (bad := badVK) w (.cells #[keyV x] 87)).trans (hfr.mono (fun T e => .inr e))).trans (Fr.setCell (bad := badVK) hb2 (.inl rfl) _)
  · exact (((below_alloc' (Below.refl w.heap.size w) (.cells #[keyV x] 87)).mono (Nat.le_trans hbase hb)).trans (hbel.mono hbase)).setCell (by show base ≤ p; exact hp) _
/-- The octets' copy: a row of the call's own, not nil. -/
theorem octs_own {e : TypeId} {v : Value} {n : Nat} {l : List UInt8} (h : w.ownsRow base e 1 v (0 + n) ([] ++ bys l)) (hn : 0 < n) (hl : l.length = n) : ∃ g cap, v = .slice (some ⟨g, 0, none⟩) n cap ∧ base ≤ g ∧ Reads w 1 (some ⟨g, 0, none⟩) n (bys l) := by
  rw [Nat.zero_add, List.nil_append] at h
  rcases h.2 with ⟨_, h0⟩ | ⟨g, cap, cur, rfl, hb, hg, h1, h2, h3, h4⟩
  · omega
  · have hb1 : Blk w g e cur := hg
    refine ⟨g, cap, rfl, hb, ?_⟩
    have := hb1.reads 1 n 0 (by omega)
    simp only [Nat.zero_mul, List.drop_zero] at this
    rwa [h4] at this
theorem own_empty (w : World) (e : TypeId) : (w.alloc (.cells #[] e)).ownsRow w.heap.size e 1 (.slice (some ⟨w.heap.size, 0, none⟩) 0 0) 0 [] :=
  ⟨rfl, .inr ⟨w.heap.size, 0, #[], rfl, Nat.le_refl _, World.alloc_heap_new w _, Nat.le_refl _, Nat.zero_le _, rfl, rfl⟩⟩
end
end Go.Proofs.YtlbnemnadegapaaDoor.Ky
