/- Two rows of steps side by side; what steps give is the same for keys that are made anew. -/
import Derived.Test.YtlbnemnadegapaaDoorKyAsk
import Derived.Test.YtlbnemnadegapaaDoorKyAnew
set_option linter.unusedVariables false
set_option linter.unusedSimpArgs false
namespace Go.Proofs.YtlbnemnadegapaaDoor.Ky
open Go.RowKit Go.Proofs.YtlbnemnadegapaaDoor.K Go.Proofs.YtlbnemnadegapaaDoor.Nm
def p5 (s : ST) : Bool := decide (s.kind ≠ 5)
def p7 (s : ST) : Bool := decide (s.kind < 7)
theorem filter_yes {p : ST → Bool} {S : List ST} {j : Nat} {s : ST} (h : S[j]? = some s) (hp : p s = true) : (S.take (j + 1)).filter p = (S.take j).filter p ++ [s] := by
  rw [List.take_add_one, h, List.filter_append]
  simp [hp]
theorem filter_no {p : ST → Bool} {S : List ST} {j : Nat} {s : ST} (h : S[j]? = some s) (hp : p s = false) : (S.take (j + 1)).filter p = (S.take j).filter p := by
  rw [List.take_add_one, h, List.filter_append]
  simp [hp]
theorem mvS_key {K : Nat} (hK : 0 < K) (m : MV) : ∃ i : Nat, (mvS K m).key = (i : Nat) ∧ i < K := by
  refine ⟨(m.key % (K : Int)).toNat, ?_, ?_⟩
  · show m.key % (K : Int) = _
    have := Int.emod_nonneg m.key (show (K : Int) ≠ 0 by omega)
    omega
  · have := Int.emod_nonneg m.key (show (K : Int) ≠ 0 by omega)
    have := Int.emod_lt_of_pos m.key (show (0 : Int) < K by omega)
    omega
theorem ap_same {Ks Kt : List Nat} {ds : List KD} {l : List ST} {n : Nat} (h1 : Ks.Nodup) (h2 : Kt.Nodup) (e1 : Ks.length = n) (e2 : Kt.length = n) (hk : ∀ s ∈ l, ∃ i : Nat, s.key = (i : Nat) ∧ i < n) (i : Nat) (hi : i < l.length) (h7 : p7 l[i] = true) :
    (runB Kt (idB Kt ds) [] (l.filter p7))[((l.take i).filter p7).length]? = (runB Ks (idB Ks ds) [] l)[i]? := by
  have hf : ∀ s ∈ l.filter p7, ∃ i : Nat, s.key = (i : Nat) ∧ i < n := fun s hs => hk s (List.mem_filter.1 hs).1
  have := runB_own Ks (idB Ks ds) l [] i hi (of_decide_eq_true h7)
  rw [run_anew h2 (by rw [e2]; exact hf), ← run_anew h1 (by rw [e1]; exact hf)]
  exact this
section
variable {w wr w8 : World} {base : Nat} {e : TypeId} {size n : Nat} {v v' u : Value} {xs : List Value}
theorem own_apart {r : Option Nat} (h : wr.ownsRow base e size u n xs) (hg : wr.grownBy w8 r) (hne : ∀ g, u.ownBlock = some g → r ≠ some g) : w8.ownsRow base e size u n xs := by
  refine ⟨h.1, ?_⟩
  rcases h.2 with h2 | ⟨g, cap, cur, rfl, a2, a3, a4⟩
  · exact .inl h2
  · have hb : Blk wr g e cur := a3
    exact .inr ⟨g, cap, cur, rfl, a2, hb.grown hg (fun q => hne g rfl q.symm), a4⟩
theorem own_lt (h : wr.ownsRow base e size u n xs) {g : Nat} (hg : u.ownBlock = some g) : g < wr.heap.size := by
  rcases h.2 with ⟨rfl, _⟩ | ⟨g', cap, cur, rfl, a2, a3, a4⟩
  · cases hg
  · have hb : Blk wr g' e cur := a3
    have : g' = g := by injection hg
    subst this
    exact hb.lt
def Apart (v u : Value) : Prop := ∀ g, v.ownBlock = some g → u.ownBlock ≠ some g
theorem Apart.symm (h : Apart v u) : Apart u v := fun g h1 h2 => h g h2 h1
theorem Apart.step {m : Nat} {ys : List Value} (h : Apart v u) (hu : wr.ownsRow base e size u m ys) (hat : v'.ownBlock = v.ownBlock ∨ v'.ownBlock = some wr.heap.size) : Apart v' u := fun g h1 h2 => by
  rcases hat with hat | hat
  · exact h g (by rw [← hat]; exact h1) h2
  · rw [hat] at h1
    injection h1 with h1
    have := own_lt hu h2
    omega
def apRel (w2 : World) (X Y : List ST) (v u : Value) (wr : World) : Prop := wr.ownsRow w2.heap.size 56 5 v X.length (flat sc X) ∧ wr.ownsRow w2.heap.size 56 5 u Y.length (flat sc Y) ∧ Apart v u ∧ Below w2.heap.size w2 wr
theorem apRel.alloc {w2 : World} {X Y : List ST} (h : apRel w2 X Y v u wr) (o : Obj) : apRel w2 X Y v u (wr.alloc o) := by
  obtain ⟨h1, h2, h3, h4⟩ := h
  exact ⟨own_keep h1 (fun j cs hb => hb.alloc _), own_keep h2 (fun j cs hb => hb.alloc _), h3, h4.alloc h4.size o⟩
theorem cells_new (w : World) (T : TypeId) (cs : List Value) (k : Nat) (u : Value) (h : cs[k]? = some u) : (w.alloc (.cells cs.toArray T)).cell? ((⟨w.heap.size, 0, none⟩ : Addr).add k) = some u := by
  rw [show (⟨w.heap.size, 0, none⟩ : Addr).add k = ⟨w.heap.size, k, none⟩ from by unfold Addr.add; by_cases hk0 : k = 0 <;> simp [hk0], (Blk.new w T cs.toArray).cell k]
  simpa using h
theorem sc_snoc (X : List ST) (s : ST) : flat sc X ++ sc s = flat sc (X ++ [s]) := by rw [flat_app]; simp [flat]
theorem apRel.left {w2 : World} {X Y : List ST} {s : ST} (h : apRel w2 X Y v u wr) (hown : w8.ownsRow w2.heap.size 56 5 v' (X.length + 1) (flat sc X ++ sc s)) (hg : wr.grownBy w8 v.ownBlock) (hat : v'.ownBlock = v.ownBlock ∨ v'.ownBlock = some wr.heap.size) : apRel w2 (X ++ [s]) Y v' u w8 := by
  obtain ⟨h1, h2, h3, h4⟩ := h
  refine ⟨by rw [sc_snoc] at hown; simpa using hown, own_apart h2 hg (fun g hg' e => h3 g e hg'), h3.step h2 hat, h4.trans (own_low h1 hg (by have := h4.size; omega))⟩
theorem apRel.right {w2 : World} {X Y : List ST} {s : ST} (h : apRel w2 X Y v u wr) (hown : w8.ownsRow w2.heap.size 56 5 v' (Y.length + 1) (flat sc Y ++ sc s)) (hg : wr.grownBy w8 u.ownBlock) (hat : v'.ownBlock = u.ownBlock ∨ v'.ownBlock = some wr.heap.size) : apRel w2 X (Y ++ [s]) v v' w8 := by
  obtain ⟨h1, h2, h3, h4⟩ := h
  refine ⟨own_apart h1 hg (fun g hg' e => h3 g hg' e), by rw [sc_snoc] at hown; simpa using hown, (h3.symm.step h1 hat).symm, h4.trans (own_low h2 hg (by have := h4.size; omega))⟩
theorem apRel.temp {w2 : World} {X Y : List ST} (h : apRel w2 X Y v u wr) (kd ky at_ : Int) (id tx : ByteArray) (b : Nat) (hb : wr.heap.size = b) : apRel w2 X Y v u (wr.alloc (.cells #[.int .i64 kd, .int .i64 ky, .int .i64 at_, .string id, .string tx] 56)) ∧ (∀ k x, (sc ⟨kd, ky, at_, id, tx⟩)[k]? = some x → (wr.alloc (.cells #[.int .i64 kd, .int .i64 ky, .int .i64 at_, .string id, .string tx] 56)).cell? ((⟨b, 0, none⟩ : Addr).add k) = some x) ∧ w2.heap.size ≤ (wr.alloc (.cells #[.int .i64 kd, .int .i64 ky, .int .i64 at_, .string id, .string tx] 56)).heap.size := by
  subst hb
  refine ⟨h.alloc _, fun k x hx => cells_new wr 56 (sc ⟨kd, ky, at_, id, tx⟩) k x hx, ?_⟩
  have := h.2.2.2.size
  rw [World.size_alloc]
  omega
/-- A block that is none of the row's own. -/
theorem blk_apart {T : TypeId} {cs : Array Value} {b : Nat} (hb : Blk wr b T cs) (hg : wr.grownBy w8 v.ownBlock) (hne : v.ownBlock ≠ some b) : Blk w8 b T cs := hb.grown hg (fun q => hne q.symm)
end
end Go.Proofs.YtlbnemnadegapaaDoor.Ky
