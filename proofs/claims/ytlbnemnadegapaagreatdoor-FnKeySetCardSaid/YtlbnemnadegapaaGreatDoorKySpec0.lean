/- laws of plain lists for the reference's walk. -/
import Derived.Test.YtlbnemnadegapaaGreatDoorKyHit
import Derived.Test.YtlbnemnadegapaaGreatDoorKyDel
set_option linter.unusedVariables false
set_option linter.unusedSimpArgs false
namespace Go.Proofs.YtlbnemnadegapaaGreatDoor.Ky
open Go.RowKit Go.Proofs.YtlbnemnadegapaaGreatDoor.K Go.Proofs.YtlbnemnadegapaaGreatDoor.Nm
theorem ixI_mem {l : List Int} {v : Int} (h : v ∈ l) : ∃ j, l.findIdx? (· == v) = some j ∧ j < l.length ∧ ixI l v = (j : Nat) := by
  unfold ixI
  cases hf : l.findIdx? (· == v) with
  | none => exact absurd h (fun hm => by have := (List.findIdx?_eq_none_iff.1 hf) v hm; simp at this)
  | some j =>
    obtain ⟨hj, _⟩ := List.findIdx?_eq_some_iff_getElem.1 hf
    exact ⟨j, rfl, hj, rfl⟩
theorem find_idx {p : Int → Bool} : ∀ {l : List Int} {j : Nat}, l.findIdx? p = some j → ∃ h : j < l.length, l.find? p = some l[j]
  | [], j, h => by simp at h
  | x :: r, j, h => by
    rw [List.findIdx?_cons] at h
    by_cases hp : p x = true
    · rw [if_pos hp] at h
      injection h with h
      subst h
      exact ⟨by simp, by simp [hp]⟩
    · rw [if_neg hp] at h
      obtain ⟨k, hk, rfl⟩ := Option.map_eq_some_iff.1 h
      obtain ⟨h1, h2⟩ := find_idx hk
      refine ⟨by simpa using h1, ?_⟩
      rw [List.find?_cons_of_neg (by simpa using hp), h2]
      rfl
theorem find_none {p : Int → Bool} {l : List Int} (h : l.findIdx? p = none) : l.find? p = none := by
  rw [List.findIdx?_eq_none_iff] at h
  rw [List.find?_eq_none]
  intro x hx
  simp [h x hx]
/-- Places of keys. -/
def InN (n : Nat) (Z : List Int) : Prop := ∀ z ∈ Z, ∃ i : Nat, z = (i : Nat) ∧ i < n
theorem spB_in {H : ByteArray → Int → Bool} {n : Nat} {Z : List Int} {s : ST} (h : InN n Z) (hs : ∃ i : Nat, s.key = (i : Nat) ∧ i < n) : InN n (spB H Z s).Z := by
  unfold spB
  have hf : ∀ o, (fndZ Z o).Z = Z := by intro o; cases o <;> rfl
  split
  · show InN n (if _ then _ else _)
    split
    · exact h
    · intro z hz
      rcases List.mem_append.1 hz with hz | hz
      · exact h z hz
      · rw [List.mem_singleton.1 hz]; exact hs
  split
  · show InN n (match Z.findIdx? (· == s.key) with | some j => Z.eraseIdx j | none => Z)
    split
    · exact fun z hz => h z (List.mem_of_mem_eraseIdx hz)
    · exact h
  split
  · exact h
  split
  · rw [hf]; exact h
  split
  · rw [hf]; exact h
  split
  · intro z hz; simp at hz
  · exact h
theorem spB_len {H : ByteArray → Int → Bool} {Z : List Int} {s : ST} : (spB H Z s).Z.length ≤ Z.length + 1 := by
  unfold spB
  have hf : ∀ o, (fndZ Z o).Z = Z := by intro o; cases o <;> rfl
  split
  · show (if _ then _ else _ : List Int).length ≤ _
    split
    · omega
    · simp
  split
  · show (match Z.findIdx? (· == s.key) with | some j => Z.eraseIdx j | none => Z).length ≤ _
    split
    · have := List.length_eraseIdx_le Z ‹_›
      omega
    · omega
  split
  · show Z.length ≤ _; omega
  split
  · rw [hf]; omega
  split
  · rw [hf]; omega
  split
  · simp
  · show Z.length ≤ _; omega
def endS (H : ByteArray → Int → Bool) : List Int → List ST → List Int
  | Z, [] => Z
  | Z, s :: r => endS H (spB H Z s).Z r
theorem runS_app (H : ByteArray → Int → Bool) : ∀ (Z : List Int) (a b : List ST), runS H Z (a ++ b) = runS H Z a ++ runS H (endS H Z a) b
  | _, [], _ => rfl
  | Z, s :: a, b => by rw [List.cons_append, runS, runS, List.cons_append, endS, runS_app H _ a b]
theorem endS_app (H : ByteArray → Int → Bool) : ∀ (Z : List Int) (a b : List ST), endS H Z (a ++ b) = endS H (endS H Z a) b
  | _, [], _ => rfl
  | Z, s :: a, b => by rw [List.cons_append, endS, endS, endS_app H _ a b]
theorem endS_in {H : ByteArray → Int → Bool} {n : Nat} : ∀ {ss : List ST} {Z : List Int}, InN n Z → (∀ s ∈ ss, ∃ i : Nat, s.key = (i : Nat) ∧ i < n) → InN n (endS H Z ss)
  | [], _, h, _ => h
  | s :: r, Z, h, hs => by rw [endS]; exact endS_in (spB_in h (hs s (by simp))) (fun t ht => hs t (by simp [ht]))
theorem endS_len {H : ByteArray → Int → Bool} : ∀ {ss : List ST} {Z : List Int}, (endS H Z ss).length ≤ Z.length + ss.length
  | [], Z => by simp [endS]
  | s :: r, Z => by
    rw [endS]
    have h1 := endS_len (H := H) (ss := r) (Z := (spB H Z s).Z)
    have h2 := spB_len (H := H) (Z := Z) (s := s)
    simp
    omega
theorem runS_len (H : ByteArray → Int → Bool) : ∀ (Z : List Int) (a : List ST), (runS H Z a).length = a.length
  | _, [] => rfl
  | Z, s :: a => by rw [runS, List.length_cons, runS_len H _ a, List.length_cons]
theorem runS_snoc {H : ByteArray → Int → Bool} {ss : List ST} {j : Nat} {s : ST} (h : ss[j]? = some s) : runS H [] (ss.take j) ++ [spN (spB H (endS H [] (ss.take j)) s)] = runS H [] (ss.take (j + 1)) := by
  rw [List.take_add_one, h, runS_app]
  rfl
theorem endS_snoc {H : ByteArray → Int → Bool} {ss : List ST} {j : Nat} {s : ST} (h : ss[j]? = some s) : (spB H (endS H [] (ss.take j)) s).Z = endS H [] (ss.take (j + 1)) := by
  rw [List.take_add_one, h, endS_app]
  rfl
theorem cells_new (w : World) (T : TypeId) (cs : List Value) (k : Nat) (u : Value) (h : cs[k]? = some u) : (w.alloc (.cells cs.toArray T)).cell? ((⟨w.heap.size, 0, none⟩ : Addr).add k) = some u := by
  rw [show (⟨w.heap.size, 0, none⟩ : Addr).add k = ⟨w.heap.size, k, none⟩ from by unfold Addr.add; by_cases hk0 : k = 0 <;> simp [hk0], (Blk.new w T cs.toArray).cell k]
  simpa using h
theorem KL.base {w : World} {b b' : Nat} {E : TypeId} {v : Value} {xs : List Value} (h : KL w b E v xs) (hb : b' ≤ b) : KL w b' E v xs := by
  obtain ⟨A, c, h1, h2, h3, h4⟩ := h
  refine ⟨A, c, h1, h2, h3, ?_⟩
  rcases h4 with h4 | ⟨g, off, cs, a1, a2, a3⟩
  · exact .inl h4
  · exact .inr ⟨g, off, cs, a1, by omega, a3⟩
theorem app_int {W : World} {R : Nat} {A : Option Addr} {n c : Nat} {l : List Int} (h : KL W R 3 (.slice A n c) (l.map (Value.int .i64))) (z : Int) (ad1 : Addr) (hc : W.cell? ad1 = some (.int .i64 z)) (hl : l.length ≤ 200) (hR : R ≤ W.heap.size) :
    ∃ A' n' c' w7, Sem.run Tryz.prog (Builtin.append_ #[31, 31] 31 #[.slice A n c, .slice (some ad1) 1 1]) W = .ok (.slice A' n' c') w7 ∧ KL w7 R 3 (.slice A' n' c') ((l ++ [z]).map (Value.int .i64)) ∧ Below R W w7 := by
  obtain ⟨i0, hi, hz0, hz1, hz2⟩ := info_parts infoInt
  obtain ⟨v', w7, hrun, hk, _, hb⟩ := KL.append 31 31 i0 (.int .i64 0) 8 Tryz.underlying31 hi hz0 hz1 hz2 rfl h (.int .i64 z) rfl ad1 1 hc (by rw [List.length_map]; unfold maxLen; omega) (by rw [List.length_map]; omega) hR
  obtain ⟨A', c', rfl, _, _⟩ := hk.len
  exact ⟨A', _, c', w7, hrun, by rw [List.map_append]; exact hk, hb⟩
theorem hk_seen {w w' : World} {b : Nat} {v : Value} {xs : List Value} (h : KL w b 3 v xs) (hb : Below w.heap.size w w') : KL w' b 3 v xs := h.below hb
theorem spec_out {wr w6 : World} {B X : Nat} {v : Value} {sns : List SN} {r : SP} {A5 nA ZA : Option Addr} {c5 nc zc : Nat} {xc : Array Value} (hO : Outs wr B v sns) (hb : Below wr.heap.size wr w6) (hX : Blk w6 X 34 xc) (hXl : wr.heap.size ≤ X) (hBw : B ≤ wr.heap.size)
    (hk : KL w6 B 3 (.slice A5 r.Z.length c5) (r.Z.map (Value.int .i64))) (hz : KL w6 B 3 (.slice ZA r.Z.length zc) (r.Z.map (Value.int .i64))) :
    ∃ rs : List (List Value × SN), ((((w6.setCell ⟨X, 3, none⟩ (.int .i64 (r.Z.length : Nat))).setCell ⟨X, 4, none⟩ (.slice A5 r.Z.length c5)).setCell ⟨X, 5, none⟩ (.slice nA 0 nc)).alloc (.cells #[.bool r.ok, .int .i64 r.idx, .int .i64 r.fnd, .int .i64 (r.Z.length : Nat), .slice A5 r.Z.length c5, .slice nA 0 nc] 34)).ownsRow B 34 6 v rs.length (flat (·.1) rs) ∧ sns = rs.map (·.2) ∧ (∀ q ∈ rs, SeenAt ((((w6.setCell ⟨X, 3, none⟩ (.int .i64 (r.Z.length : Nat))).setCell ⟨X, 4, none⟩ (.slice A5 r.Z.length c5)).setCell ⟨X, 5, none⟩ (.slice nA 0 nc)).alloc (.cells #[.bool r.ok, .int .i64 r.idx, .int .i64 r.fnd, .int .i64 (r.Z.length : Nat), .slice A5 r.Z.length c5, .slice nA 0 nc] 34)) B q.1 q.2) ∧ SeenAt ((((w6.setCell ⟨X, 3, none⟩ (.int .i64 (r.Z.length : Nat))).setCell ⟨X, 4, none⟩ (.slice A5 r.Z.length c5)).setCell ⟨X, 5, none⟩ (.slice nA 0 nc)).alloc (.cells #[.bool r.ok, .int .i64 r.idx, .int .i64 r.fnd, .int .i64 (r.Z.length : Nat), .slice A5 r.Z.length c5, .slice nA 0 nc] 34)) B [.bool r.ok, .int .i64 r.idx, .int .i64 r.fnd, .int .i64 (r.Z.length : Nat), .slice A5 r.Z.length c5, .slice nA 0 nc] (spN r) ∧ Below wr.heap.size wr ((((w6.setCell ⟨X, 3, none⟩ (.int .i64 (r.Z.length : Nat))).setCell ⟨X, 4, none⟩ (.slice A5 r.Z.length c5)).setCell ⟨X, 5, none⟩ (.slice nA 0 nc)).alloc (.cells #[.bool r.ok, .int .i64 r.idx, .int .i64 r.fnd, .int .i64 (r.Z.length : Nat), .slice A5 r.Z.length c5, .slice nA 0 nc] 34)) ∧ KL ((((w6.setCell ⟨X, 3, none⟩ (.int .i64 (r.Z.length : Nat))).setCell ⟨X, 4, none⟩ (.slice A5 r.Z.length c5)).setCell ⟨X, 5, none⟩ (.slice nA 0 nc)).alloc (.cells #[.bool r.ok, .int .i64 r.idx, .int .i64 r.fnd, .int .i64 (r.Z.length : Nat), .slice A5 r.Z.length c5, .slice nA 0 nc] 34)) B 3 (.slice ZA r.Z.length zc) (r.Z.map (Value.int .i64)) ∧ (∀ k u, [.bool r.ok, .int .i64 r.idx, .int .i64 r.fnd, .int .i64 (r.Z.length : Nat), .slice A5 r.Z.length c5, .slice nA 0 nc][k]? = some u → ((((w6.setCell ⟨X, 3, none⟩ (.int .i64 (r.Z.length : Nat))).setCell ⟨X, 4, none⟩ (.slice A5 r.Z.length c5)).setCell ⟨X, 5, none⟩ (.slice nA 0 nc)).alloc (.cells #[.bool r.ok, .int .i64 r.idx, .int .i64 r.fnd, .int .i64 (r.Z.length : Nat), .slice A5 r.Z.length c5, .slice nA 0 nc] 34)).cell? ((⟨w6.heap.size, 0, none⟩ : Addr).add k) = some u) := by
  obtain ⟨rs, h1, h2, h3⟩ := hO
  have hb3 : Below wr.heap.size wr (((w6.setCell ⟨X, 3, none⟩ (.int .i64 (r.Z.length : Nat))).setCell ⟨X, 4, none⟩ (.slice A5 r.Z.length c5)).setCell ⟨X, 5, none⟩ (.slice nA 0 nc)) := ((hb.setCell (by show wr.heap.size ≤ X; exact hXl) _).setCell (by show wr.heap.size ≤ X; exact hXl) _).setCell (by show wr.heap.size ≤ X; exact hXl) _
  have hb4 := hb3.alloc hb3.size (.cells #[.bool r.ok, .int .i64 r.idx, .int .i64 r.fnd, .int .i64 (r.Z.length : Nat), .slice A5 r.Z.length c5, .slice nA 0 nc] 34)
  have keepKL : ∀ {A : Option Addr} {n c : Nat} {xs : List Value}, KL w6 B 3 (.slice A n c) xs → KL ((((w6.setCell ⟨X, 3, none⟩ (.int .i64 (r.Z.length : Nat))).setCell ⟨X, 4, none⟩ (.slice A5 r.Z.length c5)).setCell ⟨X, 5, none⟩ (.slice nA 0 nc)).alloc (.cells #[.bool r.ok, .int .i64 r.idx, .int .i64 r.fnd, .int .i64 (r.Z.length : Nat), .slice A5 r.Z.length c5, .slice nA 0 nc] 34)) B 3 (.slice A n c) xs := fun h => (((h.setCell hX (by decide) _).setCell (hX.set_ 3 _) (by decide) _).setCell ((hX.set_ 3 _).set_ 4 _) (by decide) _).alloc _
  refine ⟨rs, own_keep h1 (fun j cs hj => hj.below hb4 hj.lt), h2, fun q hq => (h3 q hq).keep (fun j cs hj => hj.below hb4 hj.lt), ⟨.slice A5 r.Z.length c5, nA, 0, nc, rfl, keepKL hk⟩, hb4, keepKL hz, fun k u hu => ?_⟩
  have := cells_new (((w6.setCell ⟨X, 3, none⟩ (.int .i64 (r.Z.length : Nat))).setCell ⟨X, 4, none⟩ (.slice A5 r.Z.length c5)).setCell ⟨X, 5, none⟩ (.slice nA 0 nc)) 34 [.bool r.ok, .int .i64 r.idx, .int .i64 r.fnd, .int .i64 (r.Z.length : Nat), .slice A5 r.Z.length c5, .slice nA 0 nc] k u hu
  rw [show (((w6.setCell ⟨X, 3, none⟩ (.int .i64 (r.Z.length : Nat))).setCell ⟨X, 4, none⟩ (.slice A5 r.Z.length c5)).setCell ⟨X, 5, none⟩ (.slice nA 0 nc)).heap.size = w6.heap.size from by simp [World.size_setCell]] at this
  exact this
theorem KL.some_ {w : World} {b n c : Nat} {E : TypeId} {A : Option Addr} {xs : List Value} (h : KL w b E (.slice A n c) xs) (hn : 0 < xs.length) : ∃ g off, A = some ⟨g, off, none⟩ := by
  obtain ⟨A', c', h1, h2, h3, h4⟩ := h
  injection h1 with e1 e2 e3
  subst e1; subst e3
  rcases h4 with ⟨_, h4⟩ | ⟨g, off, cs, a1, _⟩
  · omega
  · exact ⟨g, off, a1⟩
end Go.Proofs.YtlbnemnadegapaaGreatDoor.Ky
