/- The walk of FieldRun: what the steps of a symmetric key give; the conditions are on what lies in memory. -/
import Derived.Test.YtlbnemnadegapaaDoorKfSeen
import Derived.Deep.LoopGhost
set_option linter.unusedVariables false
set_option linter.unusedSimpArgs false
namespace Go.Proofs.YtlbnemnadegapaaDoor.Kf
open Go.RowKit Go.Proofs.YtlbnemnadegapaaDoor.K Go.Proofs.YtlbnemnadegapaaDoor.Nm Go.Proofs.YtlbnemnadegapaaDoor.Ky
/-- One struct more at the end of a row of one's own. -/
theorem push_own {P : Program} {T t : TypeId} {ops : Array Oper} {rest : List Oper} {o : Oper} {a : Act} {Q : Exit → Act → World → Prop} {B : Nat} {w : World} {n c : Nat} {A : Option Addr} {xs : List Value} {i0 : TypeInfo} {z : Value} {size bytes : Nat} {cs : Array Value} {m : Nat}
    (h : w.ownsRow B T size (.slice A n c) n xs) (hB : B ≤ w.heap.size) (ht : P.underlying t = some (.slice T)) (HI : P.info? T = some i0 ∧ i0.zero = some z ∧ i0.size = size ∧ i0.bytes = bytes) (hzs : z.cells.size = size) (h0 : 0 < size) (hcs : cs.size = size) (hone : ∀ u ∈ cs.toList, u.oneCell' = true) (hn : n < 10000) (hby : bytes ≤ 1000) (hgd : o.guard = none) (s1 s2 : Operand)
    (ho : o.op = .call { callee := .builtin .append, args := #[s1, s2], argTypes := #[t, t] }) (hs : a.eval s1 = .slice A n c) (hm : m = w.heap.size) (he : a.eval s2 = .slice (some ⟨m, 0, none⟩) 1 1)
    (hq : ∀ A' c' w8, w8.ownsRow B T size (.slice A' (n + 1) c') (n + 1) (xs ++ cs.toList) → Below B w w8 → Fr (· = T) w w8 → wpList P ops Q rest (a.put o.dst (.slice A' (n + 1) c')) w8) : wpList P ops Q (o :: rest) a (w.alloc (.cells cs T)) := by
  subst hm
  have h1' : (w.alloc (.cells cs T)).ownsRow B T size (.slice A n c) n xs := own_keep h (fun j cs hb => hb.alloc _)
  have hsz' : B ≤ (w.alloc (.cells cs T)).heap.size := by simp only [World.size_alloc]; omega
  have hbb : (n + 1) * bytes ≤ 140737488355328 := Nat.le_trans (Nat.mul_le_mul (show n + 1 ≤ 20000 by omega) hby) (by decide)
  refine wpList_append_own _ hgd s1 s2 t ho B T i0 z size bytes ht HI.1 HI.2.1 HI.2.2.1 HI.2.2.2 hzs h0 _ n xs hs h1' ⟨w.heap.size, 0, none⟩ 1 1 cs.toList he (by simp [hcs]) (fun k u hu => ?_) hone (by unfold maxLen; omega) hbb hsz' ?_
  · have hb := Blk.new w T cs
    rw [show (⟨w.heap.size, 0, none⟩ : Addr).add k = ⟨w.heap.size, k, none⟩ from by unfold Addr.add; by_cases hk0 : k = 0 <;> simp [hk0], hb.cell]
    simpa using hu
  intro v' w8 hown hg _
  obtain ⟨A', c', rfl⟩ := own_slice hown
  exact hq A' c' w8 hown (((Below.refl B w).alloc hB _).trans (own_low h1' hg hsz')) ((Fr.alloc w _).trans (own_fr h1' hg))
def fc (s : FS) : List Value := [.int .i64 (s.kind : Nat), .string s.text, .slice s.A s.n s.c]
theorem fc_len (s : FS) : (fc s).length = 3 := rfl
/-- Steps in memory. -/
def FSL (w : World) (A : Option Addr) (n : Nat) (ss : List FS) : Prop := Reads w 3 A n (flat fc ss) ∧ ∀ s ∈ ss, SLt w s.A s.n s.l ∧ SOk s ∧ s.l.length ≤ 1000
section
variable {w w' : World} {A : Option Addr} {n : Nat} {ss : List FS}
theorem FSL.len (h : FSL w A n ss) : n = ss.length := by have := h.1.1; rw [flat_len fc_len] at this; omega
theorem FSL.below {B : Nat} (h : FSL w A n ss) (hb : Below B w w') (hB : w.heap.size ≤ B) : FSL w' A n ss :=
  ⟨h.1.below hb hB, fun s hs => ⟨Reads.below (h.2 s hs).1 hb hB, (h.2 s hs).2⟩⟩
theorem FSL.at_ {j : Nat} (h : FSL w A n ss) (hj : j < ss.length) :
    ∃ ad, A = some ad ∧ w.cell? (ad.add (j * 3)) = some (.int .i64 (ss[j].kind : Nat)) ∧ w.cell? ⟨(ad.add (j * 3)).block, (ad.add (j * 3)).off + 1, none⟩ = some (.string ss[j].text) ∧ w.cell? ⟨(ad.add (j * 3)).block, (ad.add (j * 3)).off + 2, none⟩ = some (.slice ss[j].A ss[j].n ss[j].c) := by
  have hn := h.len
  obtain ⟨ad, rfl, _, hc⟩ := h.1.2 (by omega)
  have g : ∀ i, i < 3 → (flat fc ss)[j * 3 + i]? = (fc ss[j])[i]? := fun i hi => flat_at fc_len ss j i hj hi
  exact ⟨ad, rfl, hc (j * 3) _ (by have := g 0 (by decide); simpa [fc] using this), cell_next (hc (j * 3 + 1) _ (by rw [g 1 (by decide)]; rfl)), cell_next (hc (j * 3 + 2) _ (by rw [g 2 (by decide)]; rfl))⟩
end
/-- What steps make of the fields, one after the other. -/
def runT (t : FT) : List FS → List FT
  | [] => []
  | s :: r => stp t s :: runT (stp t s) r
def endT (t : FT) (ss : List FS) : FT := ss.foldl stp t
theorem runT_app : ∀ (a b : List FS) (t : FT), runT t (a ++ b) = runT t a ++ runT (endT t a) b
  | [], b, t => rfl
  | s :: r, b, t => by simp only [List.cons_append, runT, endT, List.foldl_cons, runT_app r b]
theorem runT_len : ∀ (a : List FS) (t : FT), (runT t a).length = a.length
  | [], t => rfl
  | s :: r, t => by simp [runT, runT_len r]
theorem runT_snoc {t : FT} {ss : List FS} {j : Nat} {s : FS} (h : ss[j]? = some s) : runT t (ss.take (j + 1)) = runT t (ss.take j) ++ [stp (endT t (ss.take j)) s] := by
  rw [List.take_add_one, h, runT_app]; rfl
theorem endT_snoc {t : FT} {ss : List FS} {j : Nat} {s : FS} (h : ss[j]? = some s) : endT t (ss.take (j + 1)) = stp (endT t (ss.take j)) s := by
  rw [List.take_add_one, h]; unfold endT; rw [List.foldl_append]; rfl
theorem runT_at {t : FT} {ss : List FS} {j : Nat} (h : j < ss.length) : (runT t ss)[j]? = some (endT t (ss.take (j + 1))) := by
  conv => lhs; rw [← List.take_append_drop (j + 1) ss, runT_app]
  have h1 : ss[j]? = some ss[j] := List.getElem?_eq_getElem h
  rw [List.getElem?_append_left (by rw [runT_len, List.length_take]; omega), runT_snoc h1, List.getElem?_append_right (by rw [runT_len, List.length_take]; omega), runT_len, List.length_take, Nat.min_eq_left (by omega), endT_snoc h1]
  simp
def t0 : FT := ⟨none, none, none, none⟩
/-- A list of operations that is not too long. -/
def OB (t : FT) : Prop := (t.ops.getD []).length ≤ 1000
theorem stp_ob {t : FT} {s : FS} (h : OB t) (hs : s.l.length ≤ 1000) : OB (stp t s) := by
  unfold stp OB at *
  split
  · exact h
  split
  · exact h
  split
  · exact hs
  split
  · exact h
  split
  · split
    · exact h
    split
    · exact h
    split
    · exact Nat.zero_le _
    split
    · exact h
    · exact h
  · exact h
/-- One row of what is told: the cells' letters. -/
structure FR where
  t : FT
  OA : Option Addr
  Oc : Nat
  NA : Option Addr
  Nc : Nat
  CA : Option Addr
  Cc : Nat
def frc (n : Nat) (r : FR) : List Value := seenC true r.t r.OA r.Oc r.NA r.Nc r.CA n r.Cc
theorem frc_len (n : Nat) (r : FR) : (frc n r).length = 15 := rfl
def FOuts (w : World) (B : Nat) (v : Value) (n : Nat) (oc : List UInt8) (ts : List FT) : Prop :=
  ∃ rs : List FR, w.ownsRow B 38 15 v rs.length (flat (frc n) rs) ∧ ts = rs.map FR.t ∧ ∀ r ∈ rs, SeenR w B r.t n oc r.OA r.Oc r.NA r.Nc r.CA r.Cc
theorem SeenR.keep {w w' : World} {B : Nat} {t : FT} {n : Nat} {oc : List UInt8} {OA : Option Addr} {Oc : Nat} {NA : Option Addr} {Nc : Nat} {CA : Option Addr} {Cc : Nat} (h : SeenR w B t n oc OA Oc NA Nc CA Cc) (hk : ∀ j T cs, Blk w j T cs → T = 9 ∨ T = 5 → Blk w' j T cs) : SeenR w' B t n oc OA Oc NA Nc CA Cc :=
  ⟨own_keep h.1 (fun j cs hb => hk j _ cs hb (.inl rfl)), own_keep h.2.1 (fun j cs hb => hk j _ cs hb (.inl rfl)), own_keep h.2.2 (fun j cs hb => hk j _ cs hb (.inr rfl))⟩
theorem FOuts.keep {w w' : World} {B : Nat} {v : Value} {n : Nat} {oc : List UInt8} {ts : List FT} (h : FOuts w B v n oc ts) (hk : ∀ j T cs, Blk w j T cs → T = 9 ∨ T = 5 ∨ T = 38 → Blk w' j T cs) : FOuts w' B v n oc ts := by
  obtain ⟨rs, h1, h2, h3⟩ := h
  exact ⟨rs, own_keep h1 (fun j cs hb => hk j _ cs hb (.inr (.inr rfl))), h2, fun r hr => (h3 r hr).keep fun j T cs hb hT => hk j T cs hb (hT.elim .inl fun e => .inr (.inl e))⟩
theorem SeenR.base {w : World} {B B' : Nat} {t : FT} {n : Nat} {oc : List UInt8} {OA : Option Addr} {Oc : Nat} {NA : Option Addr} {Nc : Nat} {CA : Option Addr} {Cc : Nat} (h : SeenR w B t n oc OA Oc NA Nc CA Cc) (hB : B' ≤ B) : SeenR w B' t n oc OA Oc NA Nc CA Cc :=
  ⟨own_base h.1 hB, own_base h.2.1 hB, own_base h.2.2 hB⟩
def zFSeen : Value := .agg #[.bool false, .string ⟨#[]⟩, .string ⟨#[]⟩, .string ⟨#[]⟩, .slice none 0 0, .bool false, .bool false, .bool false, .bool false, .bool false, .bool false, .bool false, .bool false, .slice none 0 0, .slice none 0 0]
theorem infoFSeen : (Tryd.prog.info? 38).map (fun i => (i.zero, i.size, i.bytes)) = some (some zFSeen, 15, 136) := by kernel_rfl
section
variable {w w' : World}
theorem fieldSeen_lit {x m o n : Nat} {t : FT} {oc : List UInt8} (h : FKT w x m t o n oc) (hol : OB t) (hn : n ≤ 1000) : Calls Tryd.prog 31 #[.iface 107 (.pointer (some ⟨x, 0, none⟩))] w fun e w' => ∃ OA Oc NA Nc CA Cc, e = .returned (.agg #[.bool false, .string (t.kid.getD ⟨#[]⟩), .string (t.use.getD ⟨#[]⟩), .string (t.alg.getD ⟨#[]⟩), .slice OA (t.ops.getD []).length Oc, .bool t.kid.isSome, .bool t.use.isSome, .bool t.ops.isSome, .bool t.alg.isSome, .bool t.kid.isSome, .bool t.use.isSome, .bool t.ops.isSome, .bool t.alg.isSome, .slice NA t.names.length Nc, .slice CA n Cc]) ∧ SeenR w' w.heap.size t n oc OA Oc NA Nc CA Cc ∧ Below w.heap.size w w' := fieldSeen_calls h hol hn
theorem fieldStep_lit {x m o n : Nat} {t : FT} {oc : List UInt8} (h : FKT w x m t o n oc) (s : FS) (hs : SOk s) (hm : SLt w s.A s.n s.l) : Calls Tryd.prog 30 #[.iface 107 (.pointer (some ⟨x, 0, none⟩)), .agg #[.int .i64 (s.kind : Nat), .string s.text, .slice s.A s.n s.c]] w (StPost x m (stp t s) o n oc w) := fieldStep_calls h s hs hm
theorem FKT.new {x n : Nat} {l : List UInt8} (h : NewKey n l w x w') (hl : l.length = n) : ∃ o, FKT w' x w.heap.size t0 o n l := by
  obtain ⟨_, b, h1, h2, h3, h4, h5, h6⟩ := h
  exact ⟨b, ⟨none, none, none, none⟩, ⟨_, _, _, _, h2, rfl, rfl, rfl, rfl, h3⟩, h1, hl, trivial, rfl, trivial, rfl⟩
theorem ld_at {P : Program} {ops : Array Oper} {rest : List Oper} {d : Option Tmp} {ty type : TypeId} {pos : String} {after : Array Edge} {guard : Option (Nat × Bool)} {a : Act} {w : World} {Q : Exit → Act → World → Prop} (x : Operand)
    (h : wpList P ops Q (⟨d, .load ty x, type, pos, after, guard⟩ :: rest) a w) : wpList P ops Q (⟨d, .load ty x, type, pos, after, guard⟩ :: rest) a w := h
theorem seen_cells (b0 b1 b2 b3 b4 b5 b6 b7 b8 : Bool) (s1 s2 s3 : ByteArray) (A1 A2 A3 : Option Addr) (n1 n2 n3 c1 c2 c3 : Nat) : ∀ u ∈ (#[.bool b0, .string s1, .string s2, .string s3, .slice A1 n1 c1, .bool b1, .bool b2, .bool b3, .bool b4, .bool b5, .bool b6, .bool b7, .bool b8, .slice A2 n2 c2, .slice A3 n3 c3] : Array Value).toList, u.oneCell' = true := by
  intro u hu
  simp only [List.mem_cons, List.not_mem_nil, or_false] at hu
  rcases hu with rfl | rfl | rfl | rfl | rfl | rfl | rfl | rfl | rfl | rfl | rfl | rfl | rfl | rfl | rfl <;> rfl
theorem FKT.fr {bad : TypeId → Prop} {w w' : World} {x m o n : Nat} {t : FT} {oc : List UInt8} (h : FKT w x m t o n oc) (hf : Fr bad w w') (b1 : ¬ bad 144) (b2 : ¬ bad 117) (b3 : ¬ bad 9) (b4 : ¬ bad 112) (b5 : ¬ bad 5) (b6 : ¬ bad 145) : FKT w' x m t o n oc := by
  obtain ⟨f, ⟨pa, pk, po, pu, h1, h2, h3, h4, h5, h6⟩, k2, k3, k4, k5, k6, k7⟩ := h
  refine ⟨f, ⟨pa, pk, po, pu, hf.blk h1 b1, h2.fr hf b2, h3.fr hf b3, h4.fr hf b4, h5.fr hf b3, h6.fr hf⟩, hf.blk k2 b5, k3, k4, k5, ?_, k7⟩
  generalize t.ops = l at k6 ⊢
  cases l with
  | none => cases hv : f.ops with
    | none => trivial
    | some v => rw [hv] at k6; exact k6.elim
  | some l => cases hv : f.ops with
    | none => rw [hv] at k6; exact k6.elim
    | some v =>
      rw [hv] at k6
      obtain ⟨g, c2, e, hb, hfil⟩ := k6
      exact ⟨g, c2, e, hf.blk hb b6, hfil⟩
theorem load_blk {P : Program} {ops : Array Oper} {rest : List Oper} {o : Oper} {a : Act} {w : World} {Q : Exit → Act → World → Prop} (hgd : o.guard = none) (ty : TypeId) (x : Operand) (ho : o.op = .load ty x)
    (g : Nat) (hx : a.eval x = .pointer (some ⟨g, 0, none⟩)) (cs : Array Value) (k : Nat) (hb : Blk w g ty cs) (d : TypeDesc)
    (hu : P.underlying ty = some d) (hd : (match d with | .struct _ | .array _ _ => true | _ => false) = true) (hi : (P.info? ty).map (·.size) = some k) (hk : cs.size = k)
    (h : wpList P ops Q rest (a.put o.dst (.agg cs)) w) : wpList P ops Q (o :: rest) a w :=
  wpList_load_row hgd ty x ho g hx ty cs (0, 0) d hb hu hd (by rw [hi, hk]) h
theorem store_blk15 {P : Program} {ops : Array Oper} {rest : List Oper} {o : Oper} {a : Act} {w : World} {Q : Exit → Act → World → Prop} (hgd : o.guard = none) (ty : TypeId) (x y : Operand) (ho : o.op = .store ty x y) (g : Nat) (hx : a.eval x = .pointer (some ⟨g, 0, none⟩)) (cs old : Array Value) (hy : a.eval y = .agg cs)
    (t : TypeId) (hg : Blk w g t old) (k : Nat) (hi : (P.info? ty).map (·.size) = some k) (hk : cs.size = k) (hsz : old.size = k) (h1 : ∀ u ∈ cs.toList, u.oneCell' = true)
    (h : ∀ w', Blk w' g t cs → w.grownBy w' (some g) → w'.heap.size = w.heap.size → wpList P ops Q rest (a.put o.dst undef) w') : wpList P ops Q (o :: rest) a w :=
  wpList_store_blk hgd ty x y ho g hx cs old hy t hg (by rw [hi, hk]) (by rw [hk, hsz]) (by rw [Array.all_eq_true']; intro u hu; exact h1 u (by simpa using hu)) h
def RunPost (w : World) (n : Nat) (oc : List UInt8) (ss : List FS) (e : Ending) (w' : World) : Prop := ∃ v, e = .returned v ∧ FOuts w' w.heap.size v n oc (runT t0 ss) ∧ Below w.heap.size w w'
set_option maxRecDepth 100000 in
set_option maxHeartbeats 8000000 in
theorem FieldRun_calls (ad : Addr) (n c : Nat) (l : List UInt8) (hl : l.length = n) (hr : Reads w 1 (some ad) n (bys l)) (h0 : 0 < n) (hn : n ≤ 1000) (SA : Option Addr) (sn SC : Nat) (ss : List FS) (hS : FSL w SA sn ss) (hsl : ss.length ≤ 1000) :
    Calls Tryd.prog 11 #[.slice (some ad) n c, .slice SA sn SC] w (RunPost w n l ss) := by
  obtain ⟨i0, hi, hz0, hz1, hz2⟩ := info_parts infoU8
  obtain ⟨j0, hj, hy0, hy1, hy2⟩ := info_parts infoFSeen
  have HI := Lib.hid (And.intro hi (And.intro hz0 (And.intro hz1 hz2)))
  have HJ := Lib.hid (And.intro hj (And.intro hy0 (And.intro hy1 hy2)))
  have HSN := Lib.hid hS.len
  have HST := Lib.hid hS
  have HSL := Lib.hid hsl
  have HR := Lib.hid (And.intro hr hl)
  have HO := Lib.hid (Ky.own_empty w 5)
  have HB1 := Lib.hid (below_alloc' (Below.refl w.heap.size w) (.cells #[] 5))
  clear hr hl hi hz0 hz1 hz2 hj hy0 hy1 hy2 hS hsl
  go_enter Tryd.func11, Tryd.ntmps11
  go_wp2_with (first
    | (at_builtin; refine wpList_append_own _ rfl _ _ 22 rfl w.heap.size 5 i0 (.int .u8 0) 1 1 Tryd.underlying22 HI.out.1 HI.out.2.1 HI.out.2.2.1 HI.out.2.2.2 rfl (by decide) _ 0 [] rfl HO.out ad n c (bys l) rfl (by have := HR.out.2; rw [bys_length]; omega) (fun k u hu => by obtain ⟨a', e', _, hc⟩ := (HR.out.1.below HB1.out (Nat.le_refl _)).2 h0; injection e' with e'; subst e'; exact hc k u hu) (bys_one _) (by unfold maxLen; omega) (by omega) (by simp) ?_; intro v' w3 hown' hg3 _; obtain ⟨g', cap', rfl, hgb, hrd⟩ := octs_own hown' h0 HR.out.2; have H3 := Lib.hid (HB1.out.trans (own_low HO.out hg3 (by simp))); have HC := Lib.hid (NewSymmetric_calls w3 ⟨g', 0, none⟩ n cap' l HR.out.2 hrd hn h0); clear hown' hg3 hrd)
    | (go_at_call 29; (with_reducible refine Calls.mono HC.out ?_); rintro e w4 ⟨x, rfl, hx⟩; have hxe := hx; obtain ⟨o, hF⟩ := FKT.new hx HR.out.2; obtain ⟨hx1, b, _, _, _, hb5, _, _⟩ := hxe; have H4 := Lib.hid (And.intro hF (And.intro (H3.out.trans (hb5.mono H3.out.size)) (show w.heap.size ≤ x by have := H3.out.size; omega))); clear hF hx hx1 hb5))
  obtain ⟨m, hm⟩ : ∃ m, m = w3.heap.size := ⟨_, rfl⟩
  rw [← hm] at H4
  clear hm HC
  have HO0 : Hid (FOuts w4 w.heap.size (.slice none 0 0) n l (runT t0 (ss.take 0))) := Lib.hid ⟨[], World.ownsRow_nil _ _ _ _, rfl, fun r hr => by simp at hr⟩
  go_loopg [23, 7] sn (fun q u23 u7 wr => ∃ (j : Nat) (OA : Option Addr) (On Oc : Nat), q + j = sn ∧ u23 = .int .i64 (j : Nat) ∧ u7 = .slice OA On Oc ∧ Hid (FKT wr x m (endT t0 (ss.take j)) o n l) ∧ Hid (FOuts wr w.heap.size u7 n l (runT t0 (ss.take j))) ∧ Hid (Below w.heap.size w wr) ∧ Hid (OB (endT t0 (ss.take j))))
  case atStart => exact ⟨0, none, 0, 0, rfl, rfl, rfl, Lib.hid H4.out.1, HO0, Lib.hid H4.out.2.1, Lib.hid (Nat.zero_le _)⟩
  case round =>
    clear HO0
    obtain ⟨j, OA, On, Oc, hq, rfl, rfl, HF, HOU, HBW, HOB⟩ := hrel
    by_cases hj : j < sn
    · have hjs : j < ss.length := by rw [← HSN.out]; exact hj
      obtain ⟨s, hs⟩ : ∃ s, s = ss[j] := ⟨_, rfl⟩
      have HSr := Lib.hid (HST.out.below HBW.out (Nat.le_refl _))
      obtain ⟨sad, hA, k0, k1, k2⟩ := HSr.out.at_ hjs
      subst hA
      obtain ⟨m1, m2, m3⟩ := HSr.out.2 ss[j] (List.getElem_mem _)
      rw [← hs] at k0 k1 k2 m1 m2 m3
      have HSJ := Lib.hid (show ss[j]? = some s by rw [List.getElem?_eq_getElem hjs, hs])
      have hji : (j : Int) < (sn : Int) := by omega
      obtain ⟨wa, hwa⟩ : ∃ wa, wa = wr.alloc (.cells #[.int .i64 (s.kind : Nat), .string s.text, .slice s.A s.n s.c] 40) := ⟨_, rfl⟩
      have hba : Below wr.heap.size wr wa := by rw [hwa]; exact below_alloc' (Below.refl _ _) _
      have hsa : Blk wa wr.heap.size 40 #[.int .i64 (s.kind : Nat), .string s.text, .slice s.A s.n s.c] := by rw [hwa]; exact Blk.new wr _ _
      have q0 : wa.cell? ⟨wr.heap.size, 0, none⟩ = some (.int .i64 (s.kind : Nat)) := by rw [hsa.cell]; rfl
      have q1 : wa.cell? ⟨wr.heap.size, 1, none⟩ = some (.string s.text) := by rw [hsa.cell]; rfl
      have q2 : wa.cell? ⟨wr.heap.size, 2, none⟩ = some (.slice s.A s.n s.c) := by rw [hsa.cell]; rfl
      have HFa := Lib.hid (HF.out.below hba)
      have HCS := Lib.hid (fieldStep_lit HFa.out s m2 (Reads.below m1 hba (Nat.le_refl _)))
      have HOB2 := Lib.hid (stp_ob HOB.out m3)
      have HBA := Lib.hid (And.intro hba (And.intro (HBW.out.trans (hba.mono HBW.out.size)) H4.out.2.2))
      have HOUa := Lib.hid (HOU.out.keep (w' := wa) fun j T cs hb _ => hb.below hba hb.lt)
      obtain ⟨t', ht'⟩ : ∃ t', t' = stp (endT t0 (ss.take j)) s := ⟨_, rfl⟩
      rw [← ht'] at HCS HOB2
      have HT' := Lib.hid ht'
      clear hs hsa m1 m2 m3 hba HF HOU HOB HSr HST ht'
      go_upto_region 8 with (fail)
      rw [← hwa]
      clear hwa k0 k1 k2
      go_upto_region 9 with (go_at_call 30; (with_reducible refine Calls.mono HCS.out ?_); rintro e w5 ⟨rfl, hF5, hK5⟩; have H5 := Lib.hid (And.intro hF5 hK5); have HCT := Lib.hid (fieldSeen_lit hF5 HOB2.out hn); have HOU5 := Lib.hid (HOUa.out.keep (w' := w5) fun j T cs hb hT => hb.grown hK5 (fun e => by injection e with e; subst e; obtain ⟨f, ⟨_, _, _, _, hx, _⟩, _⟩ := HFa.out; have := blk_ty hb hx; rcases hT with rfl | rfl | rfl <;> exact absurd this (by decide))); have HB5 := Lib.hid (HBA.out.2.1.trans (below_of_grown hK5 HBA.out.2.2 HBA.out.2.1.size)); clear hF5 hK5 HOUa)
      obtain ⟨X, hX⟩ : ∃ X, X = w5.heap.size := ⟨_, rfl⟩
      go_upto_region 10 with (first
        | (go_at_call 31; (with_reducible refine Calls.mono HCT.out ?_); rintro e w6 ⟨TA, Tc, NA, Nc, CA, Cc, rfl, hR6, hb6⟩; have H6 := Lib.hid (And.intro hR6 hb6); have HX := Lib.hid (Blk.new w6 38 #[.bool false, .string ⟨#[]⟩, .string ⟨#[]⟩, .string ⟨#[]⟩, .slice none 0 0, .bool false, .bool false, .bool false, .bool false, .bool false, .bool false, .bool false, .bool false, .slice none 0 0, .slice none 0 0]); clear hR6 hb6)
        | (with_reducible refine st_at (.tmp 11) ?_; refine store_blk15 rfl _ _ _ rfl w6.heap.size rfl _ _ rfl 38 HX.out 15 infoSz rfl rfl (seen_cells _ _ _ _ _ _ _ _ _ _ _ _ _ _ _ _ _ _ _ _ _) ?_; intro w7 hb7 hg7 hs7; have H7 := Lib.hid (And.intro hb7 ((below_alloc' (Below.refl w6.heap.size w6) (.cells #[.bool false, .string ⟨#[]⟩, .string ⟨#[]⟩, .string ⟨#[]⟩, .slice none 0 0, .bool false, .bool false, .bool false, .bool false, .bool false, .bool false, .bool false, .bool false, .slice none 0 0, .slice none 0 0] 38)).trans (below_of_grown hg7 (Nat.le_refl _) (by simp)))); clear hb7 hg7 hs7))
      go_upto_region 11 with (with_reducible refine st_at (.tmp 33) ?_; refine put_one rfl (.tmp 33) _ rfl (fun W => by kernel_rfl) w6.heap.size 0 rfl (.bool true) (.inr (.inl ⟨_, rfl⟩)) rfl _ H7.out.1 (by simp) ?_; intro w8 hb8 hl8 hf8; (simp only [List.setIfInBounds_toArray, List.set_cons_succ, List.set_cons_zero] at hb8); have H8 := Lib.hid (And.intro hb8 (hl8 w6.heap.size w6 (Nat.le_refl _) H7.out.2)); clear hb8 hl8 hf8)
      have hb8 := H8.out.2
      have hb58 : Below w5.heap.size w5 w8 := H6.out.2.trans (hb8.mono H6.out.2.size)
      have HK8 := Lib.hid (H5.out.1.below hb58)
      have HB8 := Lib.hid (HB5.out.trans (hb58.mono HB5.out.size))
      have HO8 := HOU5.out.keep (w' := w8) fun j T cs hb hT => hb.below hb58 hb.lt
      obtain ⟨rs, o1, o2, o3⟩ := HO8
      have hrl : rs.length = j := by have h := runT_len (ss.take j) t0; rw [o2, List.length_map, List.length_take] at h; omega
      have hs8 := own_slice o1
      obtain ⟨OA2, Oc2, hv⟩ := hs8
      injection hv with hv1 hv2 hv3
      subst hv1; subst hv2; subst hv3
      have HOR := Lib.hid (And.intro o1 (And.intro o2 (And.intro o3 hrl)))
      have HR8 := Lib.hid ((H6.out.1.keep (w' := w8) fun j T cs hb hT => hb.below hb8 hb.lt).base HB5.out.size)
      clear o1 o2 o3 hb8 hb58 hrl
      go_wp2_with (first
        | (with_reducible refine ld_at (.tmp 11) ?_; refine load_blk rfl 38 _ rfl w6.heap.size rfl _ 15 H8.out.1 _ Tryd.underlying38 rfl infoSz rfl ?_)
        | (at_builtin; refine push_own HOR.out.1 HB8.out.size Tryd.underlying30 HJ.out rfl (by decide) rfl (seen_cells _ _ _ _ _ _ _ _ _ _ _ _ _ _ _ _ _ _ _ _ _) (by have := HOR.out.2.2.2; have := HSL.out; omega) (by decide) rfl _ _ rfl rfl rfl rfl ?_; intro A9 c9 w9 hown hbl hfr; have H9 := Lib.hid (And.intro hown (And.intro hbl hfr)); clear hown hbl hfr))
      go_roundg (sn - (j + 1))
      case measure => omega
      case rel =>
        obtain ⟨hown, hbl, hfr⟩ := H9.out
        refine ⟨j + 1, A9, rs.length + 1, c9, by omega, by rw [Go.IntWalk.wrap64_in _ (by have := HSL.out; omega)]; go_num, rfl, ?_, ?_, Lib.hid (HB8.out.trans hbl), ?_⟩
        · exact Lib.hid (by rw [endT_snoc HSJ.out, ← HT'.out]; exact HK8.out.fr hfr (by decide) (by decide) (by decide) (by decide) (by decide) (by decide))
        · refine Lib.hid ⟨rs ++ [⟨t', TA, Tc, NA, Nc, CA, Cc⟩], ?_, ?_, ?_⟩
          · rw [flat_app, List.length_append]
            exact hown
          · rw [runT_snoc HSJ.out, ← HT'.out, HOR.out.2.1]; simp
          · intro r hr
            have hk9 : ∀ j T cs, Blk w8 j T cs → T = 9 ∨ T = 5 → Blk w9 j T cs := fun j T cs hb hT => hfr.blk hb (by rcases hT with rfl | rfl <;> decide)
            rcases List.mem_append.1 hr with hr | hr
            · exact (HOR.out.2.2.1 r hr).keep hk9
            · rw [List.mem_singleton.1 hr]
              exact HR8.out.keep hk9
        · rw [endT_snoc HSJ.out, ← HT'.out]; exact HOB2
    · obtain rfl : j = sn := by omega
      go_wp2_with fail
      go_ret
      exact ⟨_, rfl, by have h := HOU.out; rwa [HSN.out, List.take_length] at h, HBW.out⟩
end
end Go.Proofs.YtlbnemnadegapaaDoor.Kf
