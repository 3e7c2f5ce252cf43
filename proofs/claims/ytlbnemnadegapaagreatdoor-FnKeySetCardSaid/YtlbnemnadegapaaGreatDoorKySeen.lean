/- What steps gave, as it is read; laws.sameSeen. -/
import Derived.Test.YtlbnemnadegapaaGreatDoorKyInt
import Derived.Test.YtlbnemnadegapaaGreatDoorKyRun4
set_option linter.unusedVariables false
set_option linter.unusedSimpArgs false
namespace Go.Proofs.YtlbnemnadegapaaGreatDoor.Ky
open Go.RowKit Go.Proofs.YtlbnemnadegapaaGreatDoor.K Go.Proofs.YtlbnemnadegapaaGreatDoor.Nm
def snC (s : SN) (Al : Option Addr) (nl cl : Nat) (An : Option Addr) (nn nc : Nat) : List Value := [.bool s.ok, .int .i64 s.idx, .int .i64 s.fnd, .int .i64 (s.all.length : Nat), .slice Al nl cl, .slice An nn nc]
def SNL (w : World) (A : Option Addr) (n : Nat) (sns : List SN) : Prop := ∃ rs : List (List Value × SN), Reads w 6 A n (flat (·.1) rs) ∧ sns = rs.map (·.2) ∧ ∀ r ∈ rs, ∃ Al nl cl An nn nc, r.1 = snC r.2 Al nl cl An nn nc ∧ IL w Al nl r.2.all
section
variable {w w' : World} {A : Option Addr} {n c : Nat} {sns : List SN}
theorem flat_lenm {α : Type} {f : α → List Value} {k : Nat} : ∀ (l : List α), (∀ a ∈ l, (f a).length = k) → (flat f l).length = l.length * k
  | [], _ => by simp [flat]
  | a :: r, h => by rw [flat, List.length_append, flat_lenm r (fun b hb => h b (by simp [hb])), h a (by simp), List.length_cons, Nat.add_mul]; omega
theorem flat_atm {α : Type} {f : α → List Value} {k : Nat} : ∀ (l : List α) (hf : ∀ a ∈ l, (f a).length = k) (j i : Nat) (h : j < l.length), i < k → (flat f l)[j * k + i]? = (f l[j])[i]?
  | a :: r, hf, 0, i, _, hi => by rw [flat, List.getElem?_append_left (by rw [hf a (by simp)]; omega)]; simp
  | a :: r, hf, j + 1, i, h, hi => by
    rw [flat, List.getElem?_append_right (by rw [hf a (by simp), Nat.add_mul]; omega)]
    have := flat_atm r (fun b hb => hf b (by simp [hb])) j i (by simpa using h) hi
    rw [show (j + 1) * k + i - (f a).length = j * k + i by rw [hf a (by simp), Nat.add_mul]; omega]
    simpa using this
theorem SNL.six {rs : List (List Value × SN)} (h : ∀ r ∈ rs, ∃ Al nl cl An nn nc, r.1 = snC r.2 Al nl cl An nn nc ∧ IL w Al nl r.2.all) : ∀ r ∈ rs, r.1.length = 6 := fun r hr => by
  obtain ⟨Al, nl, cl, An, nn, nc, e, _⟩ := h r hr
  rw [e]; rfl
theorem SNL.len (h : SNL w A n sns) : n = sns.length := by
  obtain ⟨rs, h1, rfl, h3⟩ := h
  have := h1.1
  rw [flat_lenm (f := (·.1)) rs (SNL.six h3)] at this
  simp
  omega
theorem SNL.below (h : SNL w A n sns) (hb : Below w.heap.size w w') : SNL w' A n sns := by
  obtain ⟨rs, h1, h2, h3⟩ := h
  refine ⟨rs, Reads.below h1 hb (Nat.le_refl _), h2, fun r hr => ?_⟩
  obtain ⟨Al, nl, cl, An, nn, nc, e, hi⟩ := h3 r hr
  exact ⟨Al, nl, cl, An, nn, nc, e, hi.below hb⟩
theorem SNL.at_ {j : Nat} (h : SNL w A n sns) (hj : j < sns.length) : ∃ ad Al nl cl An nn nc, A = some ad ∧ w.cell? (ad.add (j * 6)) = some (.bool sns[j].ok) ∧ w.cell? ⟨(ad.add (j * 6)).block, (ad.add (j * 6)).off + 1, none⟩ = some (.int .i64 sns[j].idx) ∧
      w.cell? ⟨(ad.add (j * 6)).block, (ad.add (j * 6)).off + 2, none⟩ = some (.int .i64 sns[j].fnd) ∧ w.cell? ⟨(ad.add (j * 6)).block, (ad.add (j * 6)).off + 3, none⟩ = some (.int .i64 (sns[j].all.length : Nat)) ∧
      w.cell? ⟨(ad.add (j * 6)).block, (ad.add (j * 6)).off + 4, none⟩ = some (.slice Al nl cl) ∧ w.cell? ⟨(ad.add (j * 6)).block, (ad.add (j * 6)).off + 5, none⟩ = some (.slice An nn nc) ∧ IL w Al nl sns[j].all := by
  have hn := h.len
  obtain ⟨rs, h1, h2, h3⟩ := h
  have hjr : j < rs.length := by rw [h2] at hj; simpa using hj
  obtain ⟨ad, rfl, _, hc⟩ := h1.2 (by omega)
  obtain ⟨Al, nl, cl, An, nn, nc, e, hi⟩ := h3 rs[j] (List.getElem_mem _)
  have hs : sns[j] = rs[j].2 := by subst h2; simp
  have g : ∀ i, i < 6 → (flat (·.1) rs)[j * 6 + i]? = (snC sns[j] Al nl cl An nn nc)[i]? := fun i hi => by rw [flat_atm (f := (·.1)) rs (SNL.six h3) j i hjr hi, hs, ← e]
  rw [← hs] at hi
  exact ⟨ad, Al, nl, cl, An, nn, nc, rfl, hc (j * 6) _ (by have := g 0 (by decide); simpa [snC] using this), cell_next (hc (j * 6 + 1) _ (by rw [g 1 (by decide)]; rfl)), cell_next (hc (j * 6 + 2) _ (by rw [g 2 (by decide)]; rfl)), cell_next (hc (j * 6 + 3) _ (by rw [g 3 (by decide)]; rfl)), cell_next (hc (j * 6 + 4) _ (by rw [g 4 (by decide)]; rfl)), cell_next (hc (j * 6 + 5) _ (by rw [g 5 (by decide)]; rfl)), hi⟩
theorem SNL.get {w : World} {A : Option Addr} {n j : Nat} {sns : List SN} {s : SN} (h : SNL w A n sns) (hs : sns[j]? = some s) : ∃ ad Al nl cl An nn nc, A = some ad ∧ w.cell? (ad.add (j * 6)) = some (.bool s.ok) ∧ w.cell? ⟨(ad.add (j * 6)).block, (ad.add (j * 6)).off + 1, none⟩ = some (.int .i64 s.idx) ∧
      w.cell? ⟨(ad.add (j * 6)).block, (ad.add (j * 6)).off + 2, none⟩ = some (.int .i64 s.fnd) ∧ w.cell? ⟨(ad.add (j * 6)).block, (ad.add (j * 6)).off + 3, none⟩ = some (.int .i64 (s.all.length : Nat)) ∧
      w.cell? ⟨(ad.add (j * 6)).block, (ad.add (j * 6)).off + 4, none⟩ = some (.slice Al nl cl) ∧ w.cell? ⟨(ad.add (j * 6)).block, (ad.add (j * 6)).off + 5, none⟩ = some (.slice An nn nc) ∧ IL w Al nl s.all := by
  obtain ⟨hj, rfl⟩ := List.getElem?_eq_some_iff.1 hs
  exact h.at_ hj
theorem Outs.read {B : Nat} {v : Value} (h : Outs w B v sns) : ∃ A c, v = .slice A sns.length c ∧ SNL w A sns.length sns := by
  obtain ⟨rs, h1, h2, h3⟩ := h
  obtain ⟨A, c, rfl, _, hr⟩ := own_form h1
  have hl : rs.length = sns.length := by rw [h2]; simp
  refine ⟨A, c, by rw [hl], rs, by rw [← hl]; exact hr, h2, fun r hr => ?_⟩
  obtain ⟨vA, An, nn, nc, e, hk⟩ := h3 r hr
  obtain ⟨Al, cl, rfl, _, _⟩ := hk.len
  refine ⟨Al, _, cl, An, nn, nc, e, ?_⟩
  exact (KL.reads hk).1
set_option maxRecDepth 100000 in
set_option maxHeartbeats 1000000 in
theorem sameSeen_calls (s : SN) (hl : s.all.length ≤ 1000) {A1 A2 N1 N2 : Option Addr} {n1 c1 n2 c2 m1 d1 m2 d2 : Nat} (h1 : IL w A1 n1 s.all) (h2 : IL w A2 n2 s.all) :
    Calls Tryz.prog 10 #[.agg #[.bool s.ok, .int .i64 s.idx, .int .i64 s.fnd, .int .i64 (s.all.length : Nat), .slice A1 n1 c1, .slice N1 m1 d1], .agg #[.bool s.ok, .int .i64 s.idx, .int .i64 s.fnd, .int .i64 (s.all.length : Nat), .slice A2 n2 c2, .slice N2 m2 d2]] w fun e w' => e = .returned (.bool true) ∧ Below w.heap.size w w' := by
  have HL := Lib.hid (And.intro h1 h2)
  have hn := h1.len
  have HN : Hid (n1 ≤ 1000) := Lib.hid (by omega)
  obtain ⟨ok, idx, fnd, all⟩ := s
  obtain ⟨L, hL⟩ : ∃ L, L = all.length := ⟨_, rfl⟩
  simp only at hl hn ⊢
  rw [← hL]
  clear h1 h2 hn hl hL
  go_enter Tryz.func10, Tryz.ntmps10
  go_wp2_with (go_at_call 25; refine Calls.mono (EqualI_calls (HL.out.1.below (by repeat first | exact Below.refl _ _ | apply below_alloc')) (HL.out.2.below (by repeat first | exact Below.refl _ _ | apply below_alloc')) (by have := HN.out; omega)) ?_; rw [decide_eq_true rfl]; rintro e w3 ⟨rfl, hb3⟩; have HB := Lib.hid ((show Below w.heap.size w _ from by repeat first | exact Below.refl _ _ | apply below_alloc').trans (hb3.mono (by simp [World.size_alloc]; omega))); clear hb3)
  go_ret
  exact ⟨rfl, HB.out⟩
end
end Go.Proofs.YtlbnemnadegapaaGreatDoor.Ky
