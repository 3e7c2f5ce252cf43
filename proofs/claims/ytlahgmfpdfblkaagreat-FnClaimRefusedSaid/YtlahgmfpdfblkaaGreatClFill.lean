/- Walks of impl.fresh and impl.filled for a token of jwt: what its three texts are behind the fields; the conditions are on sizes alone. -/
import Derived.Test.YtlahgmfpdfblkaaGreatClSet2
set_option linter.unusedVariables false
set_option linter.unusedSimpArgs false
namespace Go.Proofs.YtlahgmfpdfblkaaGreat.Cl
open Go.RowKit Go.Proofs.YtlahgmfpdfblkaaGreat.K
/-- A field as it lies in memory. -/
structure Fd where
  name : ByteArray
  k : Int
  t : ByteArray
  b : Bool
  z : Int
  A : Option Addr
  n : Nat
  c : Nat
  l : List ByteArray
def fc (f : Fd) : List Value := [.string f.name, .int .i64 f.k, .string f.t, .bool f.b, .int .i32 f.z, .slice f.A f.n f.c]
def fvs : List Fd → List Value
  | [] => []
  | f :: r => fc f ++ fvs r
theorem fvs_len : ∀ fs : List Fd, (fvs fs).length = fs.length * 6
  | [] => rfl
  | f :: r => by rw [fvs, List.length_append, fvs_len r, List.length_cons]; simp [fc]; omega
theorem fvs_at : ∀ (fs : List Fd) (j i : Nat) (h : j < fs.length), i < 6 → (fvs fs)[j * 6 + i]? = (fc fs[j])[i]?
  | f :: r, 0, i, _, hi => by rw [fvs, List.getElem?_append_left (by simp [fc]; omega)]; simp
  | f :: r, j + 1, i, h, hi => by
    rw [fvs, List.getElem?_append_right (by simp [fc]; omega)]
    have := fvs_at r j i (by simpa using h) hi
    rw [show (j + 1) * 6 + i - (fc f).length = j * 6 + i by simp [fc]; omega]
    simpa using this
theorem fvs_app : ∀ a b : List Fd, fvs (a ++ b) = fvs a ++ fvs b
  | [], b => rfl
  | f :: r, b => by rw [List.cons_append, fvs, fvs, fvs_app r b, List.append_assoc]
def FL (w : World) (A : Option Addr) (n : Nat) (fs : List Fd) : Prop := Reads w 6 A n (fvs fs) ∧ ∀ f ∈ fs, SL w f.A f.n f.l
theorem FL.len {w : World} {A : Option Addr} {n : Nat} {fs : List Fd} (h : FL w A n fs) : n = fs.length := by have := h.1.1; rw [fvs_len] at this; omega
theorem FL.below {w w' : World} {A : Option Addr} {n : Nat} {fs : List Fd} {B : Nat} (h : FL w A n fs) (hb : Below B w w') (hB : w.heap.size ≤ B) : FL w' A n fs :=
  ⟨h.1.below hb hB, fun f hf => (h.2 f hf).below hb hB⟩
theorem FL.at_ {w : World} {A : Option Addr} {n j : Nat} {fs : List Fd} (h : FL w A n fs) (hj : j < fs.length) :
    ∃ ad, A = some ad ∧ w.cell? (ad.add (j * 6)) = some (.string fs[j].name) ∧ w.cell? ⟨(ad.add (j * 6)).block, (ad.add (j * 6)).off + 1, none⟩ = some (.int .i64 fs[j].k) ∧ w.cell? ⟨(ad.add (j * 6)).block, (ad.add (j * 6)).off + 2, none⟩ = some (.string fs[j].t) ∧ w.cell? ⟨(ad.add (j * 6)).block, (ad.add (j * 6)).off + 3, none⟩ = some (.bool fs[j].b) ∧ w.cell? ⟨(ad.add (j * 6)).block, (ad.add (j * 6)).off + 4, none⟩ = some (.int .i32 fs[j].z) ∧ w.cell? ⟨(ad.add (j * 6)).block, (ad.add (j * 6)).off + 5, none⟩ = some (.slice fs[j].A fs[j].n fs[j].c) ∧ SL w fs[j].A fs[j].n fs[j].l := by
  have hn := h.len
  obtain ⟨ad, rfl, _, hc⟩ := h.1.2 (by omega)
  have g : ∀ i, i < 6 → (fvs fs)[j * 6 + i]? = (fc fs[j])[i]? := fun i hi => fvs_at fs j i hj hi
  exact ⟨ad, rfl, hc (j * 6) _ (by have := g 0 (by decide); simpa [fc] using this), cell_next (hc (j * 6 + 1) _ (by rw [g 1 (by decide)]; rfl)), cell_next (hc (j * 6 + 2) _ (by rw [g 2 (by decide)]; rfl)), cell_next (hc (j * 6 + 3) _ (by rw [g 3 (by decide)]; rfl)), cell_next (hc (j * 6 + 4) _ (by rw [g 4 (by decide)]; rfl)), cell_next (hc (j * 6 + 5) _ (by rw [g 5 (by decide)]; rfl)), h.2 _ (List.getElem_mem hj)⟩
def oF (f : Fd) : Option ByteArray := if f.k = 0 then some f.t else none
def stF (fs : List Fd) (st : St) : St := fs.foldl (fun st f => upd f.name (oF f) st) st
def st0 : St := ⟨none, none, none⟩
theorem stF_step (fs : List Fd) (st : St) (j : Nat) (h : j < fs.length) : stF (fs.take (j + 1)) st = upd fs[j].name (oF fs[j]) (stF (fs.take j) st) := by
  unfold stF
  rw [List.take_succ_eq_append_getElem h, List.foldl_append]
  rfl
def NPost (w : World) (e : Ending) (w' : World) : Prop := ∃ g, e = .returned (.iface 99 (.pointer (some ⟨g, 0, none⟩))) ∧ TokS w w' g st0 ∧ w.heap.size ≤ g ∧ Below w.heap.size w w'
set_option maxRecDepth 100000 in
set_option maxHeartbeats 1000000 in
theorem New2_calls (w : World) : Calls Tryz.prog 28 #[] w (NPost w) := by
  have HO := Lib.hid (fun W => OptSet_calls W)
  have hmk : ∀ W : World, Sem.run Tryz.prog (Instr.makeMap 83 none) W = .ok (.map (some W.heap.size)) (W.alloc (.map #[] 0)) := fun W => by kernel_rfl
  go_enter Tryz.func28, Tryz.ntmps28
  go_wp2_with fail
  refine (HO.out _).mono ?_
  rintro e w1 ⟨rfl, rfl⟩
  go_wp2
  go_ret
  refine ⟨w.heap.size + 1, rfl, ⟨none, 0, 0, none, none, none, w.heap.size, ?_, Or.inl ⟨rfl, rfl⟩, Or.inl ⟨rfl, rfl⟩, Or.inl ⟨rfl, rfl⟩, ⟨#[], 0, ?_, fun x hx => by simp at hx⟩, Nat.le_refl _⟩, by omega, below_alloc' (below_alloc' (Below.refl _ _) _) _⟩
  · have := Blk.new (w.alloc (.map #[] 0)) 101 #[.int .u64 0, .slice none 0 0, .pointer none, .pointer none, .pointer none, .map (some w.heap.size)]
    rwa [show (w.alloc (.map #[] 0)).heap.size = w.heap.size + 1 from by simp] at this
  · rw [Below.heap_alloc _ _ _ (by simp)]
    exact heap_alloc_new w _
set_option maxRecDepth 100000 in
set_option maxHeartbeats 1000000 in
theorem fresh_calls (w : World) : Calls Tryz.prog 22 #[.int .i64 2] w (NPost w) := by
  have HN := Lib.hid (New2_calls w)
  go_enter Tryz.func22, Tryz.ntmps22
  go_wp2_with fail
  refine HN.out.mono ?_
  rintro e w1 ⟨g, rfl, h1, h2, h3⟩
  have H := Lib.hid (And.intro h1 (And.intro h2 h3))
  clear h1 h2 h3
  go_wp2
  go_ret
  exact ⟨g, rfl, H.out.1, H.out.2.1, H.out.2.2⟩
def VFPost (w : World) (o : Option ByteArray) (e : Ending) (w' : World) : Prop := ∃ v, e = .returned v ∧ VForm v o ∧ Below w.heap.size w w'
theorem value_form (w : World) (k : Int) (t : ByteArray) (b : Bool) (z : Int) (A : Option Addr) (n c : Nat) (l : List ByteArray) (h : SL w A n l) (hn : n ≤ 100000) :
    Calls Tryz.prog 19 #[.agg #[.int .i64 k, .string t, .bool b, .int .i32 z, .slice A n c]] w (VFPost w (if k = 0 then some t else none)) := (value_calls w k t b z A n c l h hn).mono fun e w' h => by
  obtain ⟨hB, ⟨h0, he⟩ | ⟨h3, a, c, he, _⟩ | ⟨h0, _, v, he, ho⟩⟩ := h
  · exact ⟨_, he, Or.inl ⟨t, rfl, by rw [if_pos h0]⟩, hB⟩
  · exact ⟨_, he, Or.inr (Or.inl ⟨a, n, c, rfl, by rw [if_neg (by rw [h3]; decide)]⟩), hB⟩
  · exact ⟨v, he, Or.inr (Or.inr ⟨ho, by rw [if_neg h0]⟩), hB⟩
end Go.Proofs.YtlahgmfpdfblkaaGreat.Cl
