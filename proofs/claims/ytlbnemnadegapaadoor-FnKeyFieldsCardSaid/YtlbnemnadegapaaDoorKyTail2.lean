/- The tail of a round of KeyRun: what lies in memory. -/
import Derived.Test.YtlbnemnadegapaaDoorKyTail
set_option linter.unusedVariables false
set_option linter.unusedSimpArgs false
namespace Go.Proofs.YtlbnemnadegapaaDoor.Ky
open Go.RowKit Go.Proofs.YtlbnemnadegapaaDoor.K Go.Proofs.YtlbnemnadegapaaDoor.Nm
/-- What steps gave, all of it in blocks below R. -/
def OutsR (w : World) (B R : Nat) (v : Value) (sns : List SN) : Prop := ∃ w0 : World, w0.heap.size = R ∧ Outs w0 B v sns ∧ ∀ j T cs, Blk w0 j T cs → T = 3 ∨ T = 61 → Blk w j T cs
section
variable {w w' : World} {B R : Nat} {v : Value} {sns : List SN}
theorem OutsR.below (h : OutsR w B R v sns) (hb : Below R w w') : OutsR w' B R v sns := by
  obtain ⟨w0, h1, h2, h3⟩ := h
  exact ⟨w0, h1, h2, fun j T cs hj hT => (h3 j T cs hj hT).below hb (by have := hj.lt; omega)⟩
theorem OutsR.outs (h : OutsR w B R v sns) : Outs w B v sns := by
  obtain ⟨w0, h1, h2, h3⟩ := h
  exact h2.keep h3
end
theorem own_slice {w : World} {base : Nat} {e : TypeId} {size n : Nat} {v : Value} {xs : List Value} (h : w.ownsRow base e size v n xs) : ∃ A c, v = .slice A n c := by
  rcases h.2 with ⟨rfl, h0⟩ | ⟨g, cap, cur, rfl, _⟩
  · exact ⟨none, 0, by rw [h0]⟩
  · exact ⟨_, _, rfl⟩
theorem Txs.mono {n0 n1 : Nat} {w : World} {sv : Value} {zs : List ByteArray} (h : Txs n0 w sv zs) (hn : n0 ≤ n1) : Txs n1 w sv zs := by
  rcases h with h | ⟨b, off, cap, e, hb, hc⟩
  · exact .inl h
  · exact .inr ⟨b, off, cap, e, by omega, hc⟩
/-- The loop over the set's keys, i of them behind it. -/
def TA (Q : ByteArray → Prop) (B R X g p b1 : Nat) (Ks : List Nat) (r : RS) (An : Option Addr) (nn nc i : Nat) (w0 w : World) (A : Option Addr) (n c : Nat) : Prop :=
  Blk w X 61 #[.bool r.ok, .int .i64 r.idx, .int .i64 r.fnd, .int .i64 (r.S.length : Nat), .slice A n c, .slice An nn nc] ∧ KL w R 3 (.slice A n c) (((r.S.take i).map (ix Ks)).map (Value.int .i64)) ∧ SetAt Q B w g r.S ∧ KeysAt w b1 p Ks ∧ KeysIn w Ks ∧ Below R w0 w ∧ R ≤ w.heap.size
section
variable {Q : ByteArray → Prop} {B R X g p b1 : Nat} {Ks : List Nat} {r : RS} {An : Option Addr} {nn nc i : Nat} {w0 w w' : World} {A : Option Addr} {n c : Nat}
theorem KeysIn.fr {bad : TypeId → Prop} {S : List Nat} (h : KeysIn w S) (hf : Fr bad w w') (hT : ¬ bad 144) : KeysIn w' S := fun x hx => by
  obtain ⟨cs, h1⟩ := h x hx
  exact ⟨cs, hf.blk h1 hT⟩
theorem KeysAt.fr {bad : TypeId → Prop} (h : KeysAt w b1 p Ks) (hf : Fr bad w w') (h1 : ¬ bad 84) (h2 : ¬ bad 87) : KeysAt w' b1 p Ks := by
  obtain ⟨v, a, b⟩ := h
  exact ⟨v, hf.blk a h1, b.fr hf h2⟩
theorem TA.drew (h : TA Q B R X g p b1 Ks r An nn nc i w0 w A n c) : TA Q B R X g p b1 Ks r An nn nc i w0 w.drew A n c := by
  obtain ⟨h1, h2, h3, h4, h5, h6, h7⟩ := h
  exact ⟨h1, h2.drew, h3.drew, KeysAt.below (B := 0) h4 (Below.refl _ _).drew, h5, h6.drew, h7⟩
theorem TA.step (h : TA Q B R X g p b1 Ks r An nn nc i w0 w A n c) {x : Nat} (hx : r.S[i]? = some x) (hl : r.S.length < 1000) (hX : R ≤ X) :
    ∃ A' n' c' w7, Sem.run Tryd.prog (Builtin.append_ #[59, 59] 59 #[.slice A n c, .slice (some ⟨w.heap.size, 0, none⟩) 1 1]) (w.alloc (.cells #[.int .i64 (ix Ks x)] 3)) = .ok (.slice A' n' c') w7 ∧
      w7.cell? ⟨X, 4, none⟩ = some (.slice A n c) ∧ w7.frozen? ⟨X, 4, none⟩ = false ∧ TA Q B R X g p b1 Ks r An nn nc (i + 1) w0 (w7.setCell ⟨X, 4, none⟩ (.slice A' n' c')) A' n' c' := by
  obtain ⟨h1, h2, h3, h4, h5, h6, h7⟩ := h
  have hi : i < r.S.length := by
    rcases Nat.lt_or_ge i r.S.length with hi | hi
    · exact hi
    · rw [List.getElem?_eq_none hi] at hx; cases hx
  obtain ⟨A1, n1, c1, A', n', c', w7, e, hrun, hb7, hk7, hf7, hl7⟩ := add_all h1 h2 (ix Ks x) (by simp; omega) h7
  injection e with e1 e2 e3
  subst e1; subst e2; subst e3
  have hf : Fr (fun T => T = 3 ∨ T = 61) w (w7.setCell ⟨X, 4, none⟩ (.slice A' n' c')) := (hf7.mono fun T e => .inl e).trans (Fr.setCell hb7 (.inr rfl) _)
  refine ⟨A', n', c', w7, hrun, by rw [hb7.cell]; rfl, hb7.frozen 4, hb7.set_ 4 _, ?_, h3.fr hf (by decide) (by decide), h4.fr hf (by decide) (by decide), h5.fr hf (by decide), (h6.trans hl7).setCell (by show R ≤ X; exact hX) _, ?_⟩
  · have : (((r.S.take (i + 1)).map (ix Ks)).map (Value.int .i64)) = (((r.S.take i).map (ix Ks)).map (Value.int .i64)) ++ [.int .i64 (ix Ks x)] := by
      rw [List.take_add_one, hx]; simp
    rw [this]; exact hk7
  · exact Nat.le_trans h7 hf.size
theorem TA.seen (h : TA Q B R X g p b1 Ks r An nn nc r.S.length w0 w A n c) (hB : B ≤ R) : SeenAt w B [.bool r.ok, .int .i64 r.idx, .int .i64 r.fnd, .int .i64 (r.S.length : Nat), .slice A n c, .slice An nn nc] (snOf Ks r) := by
  obtain ⟨h1, h2, _⟩ := h
  rw [List.take_length] at h2
  obtain ⟨A', c', a1, a2, a3, a4⟩ := h2
  refine ⟨.slice A n c, An, nn, nc, by simp [snOf], A', c', a1, a2, a3, ?_⟩
  rcases a4 with a4 | ⟨g, off, cs, b1, b2, b3⟩
  · exact .inl a4
  · exact .inr ⟨g, off, cs, b1, by omega, b3⟩
end
def zSeen : Value := .agg #[.bool false, .int .i64 0, .int .i64 0, .int .i64 0, .slice none 0 0, .slice none 0 0]
theorem own_fr {w w' : World} {base : Nat} {e : TypeId} {size n : Nat} {v : Value} {xs : List Value} (h : w.ownsRow base e size v n xs) (hg : w.grownBy w' v.ownBlock) : Fr (· = e) w w' := by
  refine Fr.of_grown hg fun j hj _ => ?_
  rcases h.2 with ⟨rfl, _⟩ | ⟨g, cap, cur, rfl, _, hb, _⟩
  · cases hj
  · have : g = j := by injection hj
    subst this
    exact ⟨_, _, _, hb, rfl⟩
theorem own_low {w w' : World} {base : Nat} {e : TypeId} {size n : Nat} {v : Value} {xs : List Value} (h : w.ownsRow base e size v n xs) (hg : w.grownBy w' v.ownBlock) (hs : base ≤ w.heap.size) : Below base w w' := by
  refine ⟨hg.os, hg.tape, hg.output, hg.size, fun k hk => hg.block k (by omega) ?_⟩
  rcases h.2 with ⟨rfl, _⟩ | ⟨g, cap, cur, rfl, hb, _⟩
  · intro e; cases e
  · intro e
    have : k = g := by injection e
    omega
theorem run_snoc {Ks : List Nat} {ids : Nat → Option ByteArray} {ss : List ST} {j : Nat} {s : ST} (h : ss[j]? = some s) : runB Ks ids [] (ss.take j) ++ [snOf Ks (stB Ks ids (endB Ks ids [] (ss.take j)) s)] = runB Ks ids [] (ss.take (j + 1)) := by
  rw [List.take_add_one, h, runB_app]
  rfl
theorem end_snoc {Ks : List Nat} {ids : Nat → Option ByteArray} {ss : List ST} {j : Nat} {s : ST} (h : ss[j]? = some s) : (stB Ks ids (endB Ks ids [] (ss.take j)) s).S = endB Ks ids [] (ss.take (j + 1)) := by
  rw [List.take_add_one, h, endB_app]
  rfl
theorem notSK {T : TypeId} (h : T = 3 ∨ T = 61) : ¬ badSK T := by
  rcases h with rfl | rfl <;> unfold badSK <;> decide
/-- Of exits the normal one alone. -/
def only (Q : Exit → Act → World → Prop) : Exit → Act → World → Prop
  | .normal, a, w => Q .normal a w
  | _, _, _ => False
theorem wp_only {P : Program} {c : Code} {Q : Exit → Act → World → Prop} {a : Act} {w : World} (h : Code.wp P c (only Q) a w) : Code.wp P c Q a w :=
  wp_mono h (fun e a w h => by cases e <;> first | exact h | exact h.elim)
theorem only_n {Q : Exit → Act → World → Prop} {a : Act} {w : World} (h : Q .normal a w) : only Q .normal a w := h
theorem infoSeen : (Tryd.prog.info? 61).map (fun i => (i.zero, i.size, i.bytes)) = some (some zSeen, 6, 80) := by kernel_rfl
theorem seen_one (a : Bool) (b c d : Int) (A A' : Option Addr) (n n' m m' : Nat) : ∀ u ∈ [Value.bool a, .int .i64 b, .int .i64 c, .int .i64 d, .slice A n m, .slice A' n' m'], u.oneCell' = true := by
  intro u hu
  simp only [List.mem_cons, List.not_mem_nil, or_false] at hu
  rcases hu with rfl | rfl | rfl | rfl | rfl | rfl <;> rfl
end Go.Proofs.YtlbnemnadegapaaDoor.Ky
