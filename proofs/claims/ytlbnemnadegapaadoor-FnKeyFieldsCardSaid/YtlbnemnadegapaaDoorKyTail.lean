/- One more row of what steps give. -/
import Derived.Test.YtlbnemnadegapaaDoorKyStep2
import Derived.Test.YtlbnemnadegapaaDoorKySort2
set_option linter.unusedVariables false
set_option linter.unusedSimpArgs false
namespace Go.Proofs.YtlbnemnadegapaaDoor.Ky
open Go.RowKit Go.Proofs.YtlbnemnadegapaaDoor.K Go.Proofs.YtlbnemnadegapaaDoor.Nm
theorem own_ne {w : World} {base : Nat} {e T : TypeId} {size n j : Nat} {v : Value} {xs : List Value} {cs : Array Value} (h : w.ownsRow base e size v n xs) (hb : Blk w j T cs) (hne : T ≠ e) : some j ≠ v.ownBlock := by
  rcases h.2 with ⟨rfl, _⟩ | ⟨g, cap, cur, rfl, _, hg, _⟩
  · intro h; cases h
  · intro h
    have hj : j = g := by injection h
    subst hj
    have hb' : w.heap[j]? = some (.cells cs T (0, 0)) := hb
    rw [hg] at hb'
    injection hb' with hb'
    injection hb' with _ hT
    exact hne hT.symm
theorem Outs.snoc {w w' : World} {B : Nat} {v v' : Value} {rs : List (List Value × SN)} {sns : List SN} {cs : List Value} {s : SN} (h1 : w.ownsRow B 61 6 v rs.length (flat (·.1) rs)) (h2 : sns = rs.map (·.2)) (h3 : ∀ r ∈ rs, SeenAt w B r.1 r.2)
    (hown : w'.ownsRow B 61 6 v' (rs.length + 1) (flat (·.1) rs ++ cs)) (hg : w.grownBy w' v.ownBlock) (hs : SeenAt w B cs s) : Outs w' B v' (sns ++ [s]) := by
  have hk : ∀ j cs, Blk w j 3 cs → Blk w' j 3 cs := fun j cs hb => hb.grown hg (own_ne h1 hb (by decide))
  refine ⟨rs ++ [(cs, s)], ?_, by rw [h2]; simp, fun r hr => ?_⟩
  · rw [flat_app, List.length_append]
    simpa [flat] using hown
  · rcases List.mem_append.1 hr with hr | hr
    · exact (h3 r hr).keep hk
    · rw [List.mem_singleton.1 hr]
      exact hs.keep hk
theorem infoInt : (Tryd.prog.info? 3).map (fun i => (i.zero, i.size, i.bytes)) = some (some (.int .i64 0), 1, 8) := by kernel_rfl
theorem add_all {w : World} {X R : Nat} {cs : Array Value} {v : Value} {xs : List Value} (hx : Blk w X 61 cs) (h : KL w R 3 v xs) (z : Int) (hl : xs.length < 1000) (hR : R ≤ w.heap.size) :
    ∃ A n c A' n' c' w7, v = .slice A n c ∧ Sem.run Tryd.prog (Builtin.append_ #[59, 59] 59 #[.slice A n c, .slice (some ⟨w.heap.size, 0, none⟩) 1 1]) (w.alloc (.cells #[.int .i64 z] 3)) = .ok (.slice A' n' c') w7 ∧
      Blk w7 X 61 cs ∧ KL (w7.setCell ⟨X, 4, none⟩ (.slice A' n' c')) R 3 (.slice A' n' c') (xs ++ [.int .i64 z]) ∧ Fr (· = 3) w w7 ∧ Below R w w7 := by
  obtain ⟨i0, hi, hz0, hz1, hz2⟩ := info_parts infoInt
  obtain ⟨A, c, rfl, _, _⟩ := h.len
  have hc1 : (w.alloc (.cells #[.int .i64 z] 3)).cell? ⟨w.heap.size, 0, none⟩ = some (.int .i64 z) := by rw [(Blk.new w 3 #[.int .i64 z]).cell]; rfl
  obtain ⟨v', w7, hrun, hKL2, hfr, hbel⟩ := KL.append 59 59 i0 (.int .i64 0) 8 Tryd.underlying59 hi hz0 hz1 hz2 rfl (h.alloc (.cells #[.int .i64 z] 3)) (.int .i64 z) rfl ⟨w.heap.size, 0, none⟩ 1 hc1 (by unfold maxLen; omega) (by omega) (Nat.le_trans hR (by simp))
  obtain ⟨A', c', rfl, _, _⟩ := hKL2.len
  have hb2 : Blk w7 X 61 cs := hfr.blk (hx.alloc _) (by decide)
  exact ⟨A, _, c, A', _, c', w7, rfl, hrun, hb2, hKL2.setCell hb2 (by decide) _, (Fr.alloc (bad := (· = 3)) w _).trans hfr, ((below_alloc' (Below.refl w.heap.size w) (.cells #[.int .i64 z] 3)).mono hR).trans hbel⟩
theorem tl_txs {w : World} {b n : Nat} {l : List ByteArray} (h : TL w (some ⟨b, 0, none⟩) n l) (hlt : b < w.heap.size) : l.length = n ∧ Txs w.heap.size w (.slice (some ⟨b, 0, none⟩) n n) l := by
  have hl : l.length = n := by have := h.1; simpa using this
  refine ⟨hl, .inr ⟨b, 0, n, by rw [hl], hlt, fun j hj => ?_⟩⟩
  obtain ⟨a, e, _, hc⟩ := h.2 (by omega)
  injection e with e
  subst e
  have := hc j (.string l[j]) (by rw [List.getElem?_map, List.getElem?_eq_getElem hj]; rfl)
  rw [List.getElem?_eq_getElem hj, Option.getD_some, ← this]
  congr 1
  unfold Addr.add
  by_cases hj0 : j = 0 <;> simp [hj0]
/-- What stands behind a block. -/
def behind (n : Nat) : Code → Option Code
  | .seq (.block m c) t => if m == n then some t else match behind n c with
    | some r => some r
    | none => behind n t
  | .seq a t => match behind n a with
    | some r => some r
    | none => behind n t
  | .block _ c => behind n c
  | .loop c => behind n c
  | .scope c => behind n c
  | _ => none
noncomputable def tlC : Code := (Tryd.f24.body.bind (behind 4)).getD .skip
theorem tlC_at : (match tlC with | .seq (.region 45 _ _) _ => true | _ => false) = true := by kernel_rfl
end Go.Proofs.YtlbnemnadegapaaDoor.Ky
