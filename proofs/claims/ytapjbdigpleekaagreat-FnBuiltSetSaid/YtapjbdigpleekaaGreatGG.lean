import Derived.Test.YtapjbdigpleekaaGreatGB
import Derived.Maps.AppendAt
import Derived.OwnWalk
import Derived.Deep.Cut
import Derived.Deep.CutRange
import Derived.Deep.LoopGhost
import Derived.WideLaws
/- Keys of four kinds of maps: the names, each once, in some order; the conditions are on what lies in memory. Printed by gen_mpkeys.py. -/
set_option linter.unusedVariables false
set_option linter.unusedSimpArgs false
namespace Go.Proofs.YtapjbdigpleekaaGreat.Mp
open Go.RowKit Go.Proofs.YtapjbdigpleekaaGreat.K Go.Proofs.YtapjbdigpleekaaGreat.Cl
/-- Names in a row of one's own. -/
def KeysP (w : World) (Ns : List ByteArray) (e : Ending) (w' : World) : Prop := ∃ A n c L, e = .returned (.slice A n c) ∧ w'.ownsRow w.heap.size 9 1 (.slice A n c) n (strs L) ∧ L.Perm Ns ∧ Below w.heap.size w w'
/-- The names that have come so far. -/
def KR (w wx : World) (u : Value) (L : List ByteArray) : Prop := wx.ownsRow w.heap.size 9 1 u L.length (strs L) ∧ Below w.heap.size w wx
def addIf (b : Bool) (n : ByteArray) (L : List ByteArray) : List ByteArray := if b then L ++ [n] else L
theorem addIf_len (b : Bool) (n : ByteArray) (L : List ByteArray) : (addIf b n L).length ≤ L.length + 1 := by
  cases b <;> simp [addIf]
theorem KR.form {w wx : World} {u : Value} {L : List ByteArray} (h : KR w wx u L) : ∃ A c, u = .slice A L.length c := by
  obtain ⟨A, c, e, _⟩ := own_form h.1
  exact ⟨A, c, e⟩
theorem own_app3 {ops : Array Oper} {rest : List Oper} {o : Oper} {a : Act} {Q : Exit → Act → World → Prop} {B : Nat} {w : World} {n c : Nat} {A : Option Addr} {xs : List Value} {s : ByteArray} {i0 : TypeInfo}
    (h : w.ownsRow B 9 1 (.slice A n c) n xs) (hB : B ≤ w.heap.size) (HI : Tryz.prog.info? 9 = some i0 ∧ i0.zero = some (.string ByteArray.empty) ∧ i0.size = 1 ∧ i0.bytes = 16) (hn : n < 1000000) (hgd : o.guard = none) (s1 s2 : Operand)
    (ho : o.op = .call { callee := .builtin .append, args := #[s1, s2], argTypes := #[23, 23] }) (hs : a.eval s1 = .slice A n c) (he : a.eval s2 = .slice (some ⟨w.heap.size, 0, none⟩) 1 1)
    (hq : ∀ A' c' w8, w8.ownsRow B 9 1 (.slice A' (n + 1) c') (n + 1) (xs ++ [.string s]) → w.grownBy w8 (Value.slice A n c).ownBlock → wpList Tryz.prog ops Q rest (a.put o.dst (.slice A' (n + 1) c')) w8) : wpList Tryz.prog ops Q (o :: rest) a (w.alloc (.cells #[.string s] 9)) := by
  have hsz' : B ≤ (w.alloc (.cells #[.string s] 9)).heap.size := by simp only [World.size_alloc]; omega
  have h1' : (w.alloc (.cells #[.string s] 9)).ownsRow B 9 1 (.slice A n c) n xs := World.ownsRow.alloc h _
  refine wpList_append_any _ hgd s1 s2 23 ho B 9 i0 (.string ByteArray.empty) 1 16 Tryz.underlying23 HI.1 HI.2.1 HI.2.2.1 HI.2.2.2 rfl (by decide) _ n xs hs h1' (some ⟨w.heap.size, 0, none⟩) 1 1 [.string s] he (reads_lit w 1 1 [.string s] #[.string s] rfl rfl _) (by intro u hu; rw [List.mem_singleton.1 hu]; rfl) (by unfold maxLen; omega) (by omega) hsz' ?_
  intro v' w8 hown hg _
  obtain ⟨A', c', rfl, _, _⟩ := own_form hown
  exact hq A' c' w8 hown (grown_trans (World.grownBy_alloc w _ _) hg)
theorem KR.app {w wx w8 : World} {A A' : Option Addr} {n c c' : Nat} {L : List ByteArray} {s : ByteArray} (h : KR w wx (.slice A n c) L) (ho : w8.ownsRow w.heap.size 9 1 (.slice A' (L.length + 1) c') (L.length + 1) (strs L ++ [.string s])) (hg : wx.grownBy w8 (Value.slice A n c).ownBlock) : KR w w8 (.slice A' (L.length + 1) c') (addIf true s L) := by
  refine ⟨?_, h.2.grown hg h.2.size (own_block_ge h.1)⟩
  have e : strs (addIf true s L) = strs L ++ [.string s] := by simp [addIf, strs]
  have e2 : (addIf true s L).length = L.length + 1 := by simp [addIf]
  rw [e, e2]
  exact ho
/-- The names that are there among those asked so far. -/
def KC (w wx : World) (S : List (ByteArray × PV)) (v : Value) (n J : Nat) (M : List ByteArray) : Prop := ∃ L, KR w wx v L ∧ n = L.length ∧ n ≤ J ∧ L.Perm (M.filter fun x => (lookG S x).isSome)
theorem KC.no {w wx : World} {S : List (ByteArray × PV)} {v : Value} {n J : Nat} {M : List ByteArray} (h : KC w wx S v n J M) {s : ByteArray} (hs : false = (lookG S s).isSome) : KC w wx S v n (J + 1) (s :: M) := by
  obtain ⟨L, h1, h2, h3, h4⟩ := h
  exact ⟨L, h1, h2, by omega, by rw [List.filter_cons_of_neg (by simp [← hs])]; exact h4⟩
theorem KC.yes {w wx : World} {S : List (ByteArray × PV)} {v : Value} {J : Nat} {M L : List ByteArray} {s : ByteArray} (h : KR w wx v (addIf true s L)) (hJ : L.length ≤ J) (hp : L.Perm (M.filter fun x => (lookG S x).isSome)) (hs : true = (lookG S s).isSome) : KC w wx S v (L.length + 1) (J + 1) (s :: M) :=
  ⟨_, h, by simp [addIf], by omega, by rw [List.filter_cons_of_pos (by simp [← hs])]; exact (List.perm_append_singleton s L).trans (List.Perm.cons s hp)⟩
theorem info_str4 : ∃ i0, Tryz.prog.info? 9 = some i0 ∧ i0.zero = some (.string ByteArray.empty) ∧ i0.size = 1 ∧ i0.bytes = 16 := by
  obtain ⟨i0, hi, hz0, hz1, hz2⟩ := info_parts info_str
  exact ⟨i0, hi, hz0, hz1, hz2⟩
/-- The places, and what the cells have, of a known field, as Keys asks for it. -/
theorem Parts.ptr {k : Nat} {w : World} {B g : Nat} {S : List (ByteArray × PV)} {cs : Array Value} {m : Option Nat} (h : Parts k w B g S cs m) {f : ByteArray × Nat × Nat} (hf : f ∈ fldK k) (hs : f.2.2 < 2) :
    ∃ p, cs[f.2.1]? = some (.pointer p) ∧ p.isSome = (lookG S f.1).isSome := by
  obtain ⟨u, hu, hc⟩ := h.fld f hf
  unfold FC at hc
  split at hc
  · rcases hc with ⟨e, rfl⟩ | ⟨x, b, e, rfl, _⟩
    · exact ⟨none, hu, by rw [e]; rfl⟩
    · exact ⟨_, hu, by rw [e]; rfl⟩
  · rcases hc with ⟨e, rfl⟩ | ⟨x, b, e, rfl, _⟩
    · exact ⟨none, hu, by rw [e]; rfl⟩
    · exact ⟨_, hu, by rw [e]; rfl⟩
  · rename_i h0 h1
    exact absurd hs (fun h => (by omega : f.2.2 = 0 ∨ f.2.2 = 1).elim h0 h1)
theorem Parts.sli {k : Nat} {w : World} {B g : Nat} {S : List (ByteArray × PV)} {cs : Array Value} {m : Option Nat} (h : Parts k w B g S cs m) {f : ByteArray × Nat × Nat} (hf : f ∈ fldK k) (hs : f.2.2 = 2) :
    ∃ A n c, cs[f.2.1]? = some (.slice A n c) ∧ A.isSome = (lookG S f.1).isSome := by
  obtain ⟨u, hu, hc⟩ := h.fld f hf
  rw [hs] at hc
  rcases hc with ⟨e, rfl⟩ | ⟨l, a, n, c, e, rfl, _⟩
  · exact ⟨none, 0, 0, hu, by rw [e]; rfl⟩
  · exact ⟨_, _, _, hu, by rw [e]; rfl⟩
theorem Blk.at_ {w wx : World} {B g T : Nat} {cs : Array Value} {i : Nat} {u : Value} (h : Blk w g T cs) (hb : Below B w wx) (hg : g < B) (hu : cs[i]? = some u) : wx.cell? ⟨g, i, none⟩ = some u := by
  rw [(h.below hb hg).cell]
  exact hu
/-- The names of the known fields that are there, each once. -/
theorem known_perm {k : Nat} {S : List (ByteArray × PV)} (hn : (S.map (·.1)).Nodup) : (((fldK k).map (·.1)).filter (fun n => (lookG S n).isSome) ++ (priv k S).map (·.1)).Perm (S.map (·.1)) := by
  refine (List.perm_ext_iff_of_nodup ?_ hn).2 (fun a => ?_)
  · rw [List.nodup_append]
    refine ⟨(List.filter_sublist).nodup (names_nodup k), (List.filter_sublist.map _).nodup hn, ?_⟩
    intro a ha b hb e
    subst e
    obtain ⟨f, hf, rfl⟩ := List.mem_map.1 (List.mem_filter.1 ha).1
    obtain ⟨p, hp, e⟩ := List.mem_map.1 hb
    have := (List.mem_filter.1 hp).2
    rw [e, known_of hf] at this
    cases this
  · rw [List.mem_append]
    constructor
    · rintro (h | h)
      · have := (List.mem_filter.1 h).2
        refine Classical.byContradiction fun hc => ?_
        rw [lookG_none.2 hc] at this
        cases this
      · obtain ⟨p, hp, e⟩ := List.mem_map.1 h
        exact List.mem_map.2 ⟨p, (List.mem_filter.1 hp).1, e⟩
    · intro h
      cases hk : isK k a with
      | true =>
        left
        obtain ⟨f, hf, e⟩ := isK_iff.1 hk
        refine List.mem_filter.2 ⟨List.mem_map.2 ⟨f, hf, e⟩, ?_⟩
        cases hl : lookG S a with
        | none => exact absurd h (lookG_none.1 hl)
        | some x => rfl
      | false =>
        right
        obtain ⟨p, hp, e⟩ := List.mem_map.1 h
        exact List.mem_map.2 ⟨p, List.mem_filter.2 ⟨hp, by rw [e, hk]; rfl⟩, e⟩
theorem own_ne_iter {w : World} {B n m r : Nat} {v : Value} {xs : List Value} {L ds : List (ByteArray × Value)} (h : w.ownsRow B 9 1 v n xs) (hr : RangL w m r L ds) : some r ≠ v.ownBlock ∧ some m ≠ v.ownBlock := by
  obtain ⟨es, c, s, seen, c0, a1, _, _, a4, _⟩ := hr
  rcases h.2 with ⟨rfl, _⟩ | ⟨g', cap, cur, rfl, _, hh, _⟩
  · exact ⟨by simp [Value.ownBlock], by simp [Value.ownBlock]⟩
  · refine ⟨fun e => ?_, fun e => ?_⟩
    · have : r = g' := by simpa [Value.ownBlock] using e
      subst this
      rw [hh] at a4; cases a4
    · have : m = g' := by simpa [Value.ownBlock] using e
      subst this
      rw [hh] at a1; cases a1
/-- A range over the map of other names, on its way. -/
structure KRng (w wx : World) (m r : Nat) (L : List (ByteArray × Value)) (pre : List ByteArray) (ds : List (ByteArray × Value)) (u : Value) : Prop where
  rg : RangL wx m r L ds
  kr : KR w wx u (pre ++ ds.map (·.1))
  low : w.heap.size ≤ r
theorem KRng.start {w wx w1 : World} {m r : Nat} {L : List (ByteArray × Value)} {pre : List ByteArray} {u : Value} (h : KR w wx u pre) (hr : RangL w1 m r L []) (hg : wx.grownBy w1 none) (hl : w.heap.size ≤ r) : KRng w w1 m r L pre [] u :=
  ⟨hr, ⟨by rw [List.map_nil, List.append_nil]; exact h.1.kept hg (by cases u.ownBlock <;> simp), h.2.grown hg h.2.size (by intro j hj; cases hj)⟩, hl⟩
theorem KRng.step {w wx w5 w8 : World} {m r : Nat} {L : List (ByteArray × Value)} {pre : List ByteArray} {ds : List (ByteArray × Value)} {A A' : Option Addr} {n c c' : Nat} {p : ByteArray × Value} (h : KRng w wx m r L pre ds (.slice A n c)) (hR : RangL w5 m r L (ds ++ [p])) (hg : wx.grownBy w5 (some r))
    (ho : w8.ownsRow w.heap.size 9 1 (.slice A' (n + 1) c') (n + 1) (strs (pre ++ ds.map (·.1)) ++ [.string p.1])) (hg8 : w5.grownBy w8 (Value.slice A n c).ownBlock) (hn : n = (pre ++ ds.map (·.1)).length) : KRng w w8 m r L pre (ds ++ [p]) (.slice A' (n + 1) c') := by
  have hne := own_ne_iter h.kr.1 h.rg
  subst hn
  have e : pre ++ (ds ++ [p]).map (·.1) = (pre ++ ds.map (·.1)) ++ [p.1] := by simp
  refine ⟨hR.grown hg8 hne.2 hne.1, ⟨?_, ?_⟩, h.low⟩
  · rw [e]
    have e2 : strs ((pre ++ ds.map (·.1)) ++ [p.1]) = strs (pre ++ ds.map (·.1)) ++ [.string p.1] := by simp [strs]
    have e3 : ((pre ++ ds.map (·.1)) ++ [p.1]).length = (pre ++ ds.map (·.1)).length + 1 := by rw [List.length_append, List.length_singleton]
    rw [e2, e3]
    exact ho
  · exact (h.kr.2.grown hg h.kr.2.size (by intro j hj; cases hj; exact h.low)).grown hg8 (Nat.le_trans h.kr.2.size hg.size) (own_block_ge h.kr.1)
theorem KRng.own5 {w wx w5 : World} {m r : Nat} {L : List (ByteArray × Value)} {pre : List ByteArray} {ds : List (ByteArray × Value)} {u : Value} (h : KRng w wx m r L pre ds u) (hg : wx.grownBy w5 (some r)) :
    w5.ownsRow w.heap.size 9 1 u (pre ++ ds.map (·.1)).length (strs (pre ++ ds.map (·.1))) ∧ w.heap.size ≤ w5.heap.size :=
  ⟨h.kr.1.kept hg (.inr (own_ne_iter h.kr.1 h.rg).1.symm), Nat.le_trans h.kr.2.size hg.size⟩
theorem len_map {w : World} {m : Nat} {L : List (ByteArray × Value)} (h : MapL w m L) (ty : TypeId) : (Builtin.len_ #[169] ty #[.map (some m)]).run Tryz.prog w = .ok (goInt L.length) w := by
  obtain ⟨es, c, hb, _, hl⟩ := h
  have e : L.length = es.size := by have := congrArg List.length hl; simpa using this.symm
  rw [run_len_map w _ _ m es c (by kernel_rfl) hb, e]
theorem sub_len {α : Type} : ∀ {a b : List α}, a.Nodup → (∀ x ∈ a, x ∈ b) → a.length ≤ b.length
  | [], _, _, _ => Nat.zero_le _
  | x :: a, b, hn, hs => by
    obtain ⟨l, r, rfl⟩ := List.append_of_mem (hs x List.mem_cons_self)
    rw [List.nodup_cons] at hn
    have ih : a.length ≤ (l ++ r).length := sub_len hn.2 (fun y hy => by
      have := hs y (List.mem_cons_of_mem _ hy)
      simp only [List.mem_append, List.mem_cons] at this ⊢
      rcases this with h | rfl | h
      · exact .inl h
      · exact absurd hy hn.1
      · exact .inr h)
    simp only [List.length_append, List.length_cons] at ih ⊢
    omega
theorem nodup_len {L ds : List (ByteArray × Value)} (hd : (ds.map (·.1)).Nodup) (hs : ∀ p ∈ ds, p ∈ L) : ds.length ≤ L.length := by
  refine sub_len ?_ hs
  rw [List.nodup_iff_pairwise_ne, List.pairwise_map] at hd
  rw [List.nodup_iff_pairwise_ne]
  exact hd.imp (fun h e => h (by rw [e]))
theorem keys_end {k : Nat} {S : List (ByteArray × PV)} (hn : (S.map (·.1)).Nodup) {pre : List ByteArray} (hp : pre.Perm (((fldK k).map (·.1)).filter (fun n => (lookG S n).isSome))) {Ns : List ByteArray} (hN : Ns.Perm ((priv k S).map (·.1))) : (pre ++ Ns).Perm (S.map (·.1)) :=
  (hp.append hN).trans (known_perm hn)
theorem addIf_perm {q : ByteArray → Bool} {n : ByteArray} {L M : List ByteArray} (h : L.Perm (M.filter q)) : (addIf (q n) n L).Perm ((n :: M).filter q) := by
  unfold addIf
  cases hq : q n with
  | true => rw [if_pos rfl, List.filter_cons_of_pos hq]; exact (List.perm_append_singleton n L).trans (List.Perm.cons n h)
  | false => rw [if_neg (by simp), List.filter_cons_of_neg (by simp [hq])]; exact h
set_option maxRecDepth 100000 in
set_option maxHeartbeats 8000000 in
theorem jwt_Keys {w : World} {B g : Nat} {S : List (ByteArray × PV)} (h : Hd 2 w B g S) (hS : S.length ≤ 100000) :
    Calls Tryz.prog 264 #[.pointer (some ⟨g, 0, none⟩)] w (KeysP w (S.map (·.1))) := by
  obtain ⟨cs, m, hp⟩ := h
  have HP := Lib.hid hp
  obtain ⟨i0, hi4⟩ := info_str4
  have HI := Lib.hid hi4
  have HB := Lib.hid hp.blk
  have HLT := Lib.hid hp.blk.lt
  have hm := hp.map_
  have HM := Lib.hid hm
  have hcm : w.cell? ⟨g, 5, none⟩ = some (.map m) := by rw [hp.blk.cell]; exact hm
  clear hm hi4
  obtain ⟨p0, n0, c0, hc0, hb0⟩ := hp.sli (List.mem_of_getElem? (show (fldK 2)[0]? = some (⟨#[97, 117, 100]⟩, 1, 2) from rfl)) rfl
  have HC0 : Hid (cs[1]? = some (.slice p0 n0 c0)) := Lib.hid hc0
  have HB0 : Hid (p0.isSome = (lookG S ⟨#[97, 117, 100]⟩).isSome) := Lib.hid hb0
  clear hc0 hb0
  obtain ⟨p1, hc1, hb1⟩ := hp.ptr (List.mem_of_getElem? (show (fldK 2)[1]? = some (⟨#[105, 115, 115]⟩, 2, 0) from rfl)) (by decide)
  have HC1 : Hid (cs[2]? = some (.pointer p1)) := Lib.hid hc1
  have HB1 : Hid (p1.isSome = (lookG S ⟨#[105, 115, 115]⟩).isSome) := Lib.hid hb1
  clear hc1 hb1
  obtain ⟨p2, hc2, hb2⟩ := hp.ptr (List.mem_of_getElem? (show (fldK 2)[2]? = some (⟨#[106, 116, 105]⟩, 3, 0) from rfl)) (by decide)
  have HC2 : Hid (cs[3]? = some (.pointer p2)) := Lib.hid hc2
  have HB2 : Hid (p2.isSome = (lookG S ⟨#[106, 116, 105]⟩).isSome) := Lib.hid hb2
  clear hc2 hb2
  obtain ⟨p3, hc3, hb3⟩ := hp.ptr (List.mem_of_getElem? (show (fldK 2)[3]? = some (⟨#[115, 117, 98]⟩, 4, 0) from rfl)) (by decide)
  have HC3 : Hid (cs[4]? = some (.pointer p3)) := Lib.hid hc3
  have HB3 : Hid (p3.isSome = (lookG S ⟨#[115, 117, 98]⟩).isSome) := Lib.hid hb3
  clear hc3 hb3
  obtain ⟨N, hlen, hNl⟩ : ∃ N : Nat, (∀ ty, (Builtin.len_ #[169] ty #[.map m]).run Tryz.prog w = .ok (goInt N) w) ∧ N ≤ 100000 := by
    rcases hp.prv with ⟨rfl, _⟩ | ⟨mm, E, rfl, _, h3, h4, _⟩
    · exact ⟨0, fun ty => run_len_nilMap w _ _ (by kernel_rfl), by omega⟩
    · refine ⟨_, fun ty => len_map h3 ty, ?_⟩
      have e : E.length = (priv 2 S).length := by rw [← h4, List.length_map]
      rw [List.length_map, e]
      exact Nat.le_trans (List.length_filter_le _ _) hS
  have hwr : IntKind.i64.wrap ((7 : Int) + (N : Int)) = ((7 + N : Nat) : Int) := by rw [wrap_small _ (by omega) (by omega)]; omega
  have HWR := Lib.hid hNl
  have HS := Lib.hid hS
  clear hp hNl hS
  go_enter Tryz.func264, Tryz.ntmps264
  go_upto_region 2 with (at_make; refine wpList_make_own _ rfl _ _ 23 rfl w.heap.size 9 i0 (.string ByteArray.empty) 1 Tryz.underlying23 HI.out.1 HI.out.2.1 HI.out.2.2.1 .i64 .i64 _ (7 + N) rfl rfl (by first | rfl | exact hwr) (by rw [HI.out.2.2.2]; have := HWR.out; omega) (by unfold maxLen; have := HWR.out; omega) (Nat.le_refl _) ?_; intro wc hown hg0; have HK : Hid (KC w wc S (.slice (some ⟨w.heap.size, 0, none⟩) 0 (7 + N)) 0 0 []) := Lib.hid ⟨[], ⟨hown, (Below.refl w.heap.size w).grown hg0 (Nat.le_refl _) (by intro j hj; cases hj)⟩, rfl, Nat.le_refl _, List.Perm.nil⟩; clear hown hg0)
  clear hlen hwr hcm
  have HBW : Hid (Below w.heap.size w wc) := Lib.hid (by obtain ⟨L, hk, _⟩ := HK.out; exact hk.2)
  have hc : wc.cell? ⟨g, 1, none⟩ = some (.slice p0 n0 c0) := Blk.at_ HB.out HBW.out HLT.out HC0.out
  have hnil := fun W : World => Go.run_neq_slice_nil (P := Tryz.prog) W 203 9 p0 n0 c0 Tryz.underlying203
  go_upto_if 16 with (fail)
  go_cut [3] from 12 to 19 (fun v wx => ∃ A n c, v = .slice A n c ∧ Hid (KC w wx S (.slice A n c) n 1 (⟨#[97, 117, 100]⟩ :: [])))
  case first =>
    cases p0 with
    | none =>
      go_wp2_with fail
      go_meet
      case rel => exact ⟨_, _, _, rfl, HK.out.no HB0.out⟩
    | some q =>
      obtain ⟨L, hk, hn, hJ, hpm⟩ := HK.out
      have hL0 : L = [] := List.eq_nil_of_length_eq_zero hn.symm
      subst hL0
      have HQ := Lib.hid (And.intro hk (And.intro hJ hpm))
      clear HK hk hJ hpm hn
      go_wp2_with (at_builtin; refine own_app3 HQ.out.1.1 HQ.out.1.2.size HI.out (by show 0 < 1000000; omega) rfl _ _ rfl rfl rfl ?_; intro A8 c8 w8 hown hg8; have HK8 := Lib.hid (HQ.out.1.app hown hg8); clear hown hg8)
      go_meet
      case rel => exact ⟨_, _, _, rfl, KC.yes HK8.out HQ.out.2.1 HQ.out.2.2 HB0.out⟩
  case rest =>
    clear hc HBW HK hnil HC0 HB0
    obtain ⟨A1, n1, c1, rfl, HK⟩ := hcut
    have HBW : Hid (Below w.heap.size w wc) := Lib.hid (by obtain ⟨L, hk, _⟩ := HK.out; exact hk.2)
    have hc : wc.cell? ⟨g, 2, none⟩ = some (.pointer p1) := Blk.at_ HB.out HBW.out HLT.out HC1.out
    go_upto_if 24 with (fail)
    go_cut [3] from 20 to 27 (fun v wx => ∃ A n c, v = .slice A n c ∧ Hid (KC w wx S (.slice A n c) n 2 (⟨#[105, 115, 115]⟩ :: ⟨#[97, 117, 100]⟩ :: [])))
    case first =>
      cases p1 with
      | none =>
        go_wp2_with fail
        go_meet
        case rel => exact ⟨_, _, _, rfl, HK.out.no HB1.out⟩
      | some q =>
        obtain ⟨L, hk, hn, hJ, hpm⟩ := HK.out
        subst hn
        have HQ := Lib.hid (And.intro hk (And.intro hJ hpm))
        clear HK hk hJ hpm
        go_wp2_with (at_builtin; refine own_app3 HQ.out.1.1 HQ.out.1.2.size HI.out (by have := HQ.out.2.1; omega) rfl _ _ rfl rfl rfl ?_; intro A8 c8 w8 hown hg8; have HK8 := Lib.hid (HQ.out.1.app hown hg8); clear hown hg8)
        go_meet
        case rel => exact ⟨_, _, _, rfl, KC.yes HK8.out HQ.out.2.1 HQ.out.2.2 HB1.out⟩
    case rest =>
      clear hc HBW HK HC1 HB1
      obtain ⟨A1, n1, c1, rfl, HK⟩ := hcut
      have HBW : Hid (Below w.heap.size w wc) := Lib.hid (by obtain ⟨L, hk, _⟩ := HK.out; exact hk.2)
      have hc : wc.cell? ⟨g, 3, none⟩ = some (.pointer p2) := Blk.at_ HB.out HBW.out HLT.out HC2.out
      go_upto_if 32 with (fail)
      go_cut [3] from 28 to 35 (fun v wx => ∃ A n c, v = .slice A n c ∧ Hid (KC w wx S (.slice A n c) n 3 (⟨#[106, 116, 105]⟩ :: ⟨#[105, 115, 115]⟩ :: ⟨#[97, 117, 100]⟩ :: [])))
      case first =>
        cases p2 with
        | none =>
          go_wp2_with fail
          go_meet
          case rel => exact ⟨_, _, _, rfl, HK.out.no HB2.out⟩
        | some q =>
          obtain ⟨L, hk, hn, hJ, hpm⟩ := HK.out
          subst hn
          have HQ := Lib.hid (And.intro hk (And.intro hJ hpm))
          clear HK hk hJ hpm
          go_wp2_with (at_builtin; refine own_app3 HQ.out.1.1 HQ.out.1.2.size HI.out (by have := HQ.out.2.1; omega) rfl _ _ rfl rfl rfl ?_; intro A8 c8 w8 hown hg8; have HK8 := Lib.hid (HQ.out.1.app hown hg8); clear hown hg8)
          go_meet
          case rel => exact ⟨_, _, _, rfl, KC.yes HK8.out HQ.out.2.1 HQ.out.2.2 HB2.out⟩
      case rest =>
        clear hc HBW HK HC2 HB2
        obtain ⟨A1, n1, c1, rfl, HK⟩ := hcut
        have HBW : Hid (Below w.heap.size w wc) := Lib.hid (by obtain ⟨L, hk, _⟩ := HK.out; exact hk.2)
        have hc : wc.cell? ⟨g, 4, none⟩ = some (.pointer p3) := Blk.at_ HB.out HBW.out HLT.out HC3.out
        go_upto_if 40 with (fail)
        go_cut [3] from 36 to 43 (fun v wx => ∃ A n c, v = .slice A n c ∧ Hid (KC w wx S (.slice A n c) n 4 (⟨#[115, 117, 98]⟩ :: ⟨#[106, 116, 105]⟩ :: ⟨#[105, 115, 115]⟩ :: ⟨#[97, 117, 100]⟩ :: [])))
        case first =>
          cases p3 with
          | none =>
            go_wp2_with fail
            go_meet
            case rel => exact ⟨_, _, _, rfl, HK.out.no HB3.out⟩
          | some q =>
            obtain ⟨L, hk, hn, hJ, hpm⟩ := HK.out
            subst hn
            have HQ := Lib.hid (And.intro hk (And.intro hJ hpm))
            clear HK hk hJ hpm
            go_wp2_with (at_builtin; refine own_app3 HQ.out.1.1 HQ.out.1.2.size HI.out (by have := HQ.out.2.1; omega) rfl _ _ rfl rfl rfl ?_; intro A8 c8 w8 hown hg8; have HK8 := Lib.hid (HQ.out.1.app hown hg8); clear hown hg8)
            go_meet
            case rel => exact ⟨_, _, _, rfl, KC.yes HK8.out HQ.out.2.1 HQ.out.2.2 HB3.out⟩
        case rest =>
          clear hc HBW HK HC3 HB3
          obtain ⟨A1, n1, c1, rfl, HK⟩ := hcut
          obtain ⟨L0, hk, hn, hJ, hpm⟩ := HK.out
          subst hn
          have HQ := Lib.hid (And.intro hk (And.intro hJ (hpm.trans ((List.reverse_perm ((fldK 2).map (·.1))).filter _))))
          clear HK hk hJ hpm
          have hcm : wc.cell? ⟨g, 5, none⟩ = some (.map m) := Blk.at_ HB.out HQ.out.1.2 HLT.out HM.out
          rcases HP.out.prv with ⟨rfl, h0⟩ | ⟨mm, E, rfl, _, h3, h4, _⟩
          · have hrng := run_range_nilMap (P := Tryz.prog) wc 169 _ _ Tryz.underlying169
            have hnx := fun ty => run_next_nilMap (P := Tryz.prog) wc ty 0 0 #[]
            have H0 := Lib.hid h0
            clear h0
            go_wp2_with fail
            refine wp_loop_rounds 1 ?_
            rw [rounds_succ]
            go_wp2
            go_ret
            exact ⟨_, _, _, _, rfl, HQ.out.1.1.alloc _, (by have h := keys_end HP.out.nd HQ.out.2.2 (Ns := []) (by rw [H0.out]; exact List.Perm.nil); rw [List.append_nil] at h; exact h), below_alloc' HQ.out.1.2 _⟩
          · obtain ⟨w4, hrng, hR4, hg4, _⟩ := run_range (P := Tryz.prog) Tryz.underlying169 wc mm _ (h3.below HQ.out.1.2 h3.lt)
            have hnd : ((E.map fun t => (t.1, t.2.1)).map (·.1)) = (priv 2 S).map (·.1) := by rw [← h4, List.map_map, List.map_map]; rfl
            have HND := Lib.hid hnd
            obtain ⟨L, hL⟩ : ∃ L, L = E.map fun t => (t.1, t.2.1) := ⟨_, rfl⟩
            rw [← hL] at hR4 HND
            have HNN : Hid ((L.map (·.1)).Nodup) := Lib.hid (by rw [HND.out]; exact (List.filter_sublist.map _).nodup HP.out.nd)
            have HLL : Hid (L.length ≤ 100000) := Lib.hid (by have e := congrArg List.length HND.out; rw [List.length_map, List.length_map] at e; rw [e]; exact Nat.le_trans (List.length_filter_le _ _) HS.out)
            have HR := Lib.hid (KRng.start HQ.out.1 hR4 hg4 HQ.out.1.2.size)
            have HQ2 := Lib.hid HQ.out.2
            clear h3 h4 hnd hL hR4 hg4 HQ
            go_wp2_with fail
            go_loopg [3, 4] (togo L []) (fun q v3 v4 wr => ∃ ds A n c, q = togo L ds ∧ v3 = .slice A n c ∧ Hid (KRng w wr mm wc.heap.size L L0 ds (.slice A n c) ∧ n = (L0 ++ ds.map (·.1)).length))
            case atStart => exact ⟨[], _, _, _, rfl, rfl, HR.out, by simp⟩
            case round =>
              clear HR
              obtain ⟨ds, A, n, c, hk, rfl, HR⟩ := hrel
              have HKK := Lib.hid hk
              clear hk
              rcases HR.out.1.rg.next (P := Tryz.prog) 0 HNN.out with ⟨hall, hrun⟩ | ⟨q, hq, hf, w5, hrun, hR5, hg5, hent⟩
              · have HA := Lib.hid hall
                clear hall
                go_wp2
                go_ret
                have hsub := HR.out.1.rg.sub
                have hpm := (all_perm HNN.out hsub.2 hsub.1 HA.out).map (·.1)
                have ho := HR.out.1.kr.1
                rw [← HR.out.2] at ho
                exact ⟨_, _, _, _, rfl, ho, keys_end HP.out.nd HQ2.out.2 (hpm.trans (by rw [HND.out])), HR.out.1.kr.2⟩
              · have HH := Lib.hid (And.intro hq (And.intro hf (And.intro hR5 hg5)))
                have HN : Hid (n < 1000000) := Lib.hid (by
                  have h1 := HR.out.2
                  have h2 := HQ2.out.1
                  have hsub := HR.out.1.rg.sub
                  have h3 : ds.length ≤ L.length := nodup_len hsub.2 hsub.1
                  have h4 := HLL.out
                  rw [List.length_append, List.length_map] at h1
                  omega)
                have HO5 := Lib.hid (HR.out.1.own5 hg5)
                clear hq hf hR5 hg5
                go_wp2_with (at_builtin; refine own_app3 (by have h := HO5.out.1; rwa [← HR.out.2] at h) HO5.out.2 HI.out HN.out rfl _ _ rfl rfl rfl ?_; intro A8 c8 w8 hown hg8; have HK8 := Lib.hid (HR.out.1.step HH.out.2.2.1 HH.out.2.2.2 hown hg8 HR.out.2); clear hown hg8)
                go_roundg (togo L (ds ++ [q]))
                case measure => rw [HKK.out]; exact togo_less HH.out.1 HH.out.2.1
                case rel => exact ⟨ds ++ [q], _, _, _, rfl, rfl, HK8.out, by have := HR.out.2; simp at this ⊢; omega⟩
set_option maxRecDepth 100000 in
set_option maxHeartbeats 8000000 in
theorem jws_Keys {w : World} {B g : Nat} {S : List (ByteArray × PV)} (h : Hd 0 w B g S) (hS : S.length ≤ 100000) :
    Calls Tryz.prog 173 #[.pointer (some ⟨g, 0, none⟩)] w (KeysP w (S.map (·.1))) := by
  obtain ⟨cs, m, hp⟩ := h
  have HP := Lib.hid hp
  obtain ⟨i0, hi4⟩ := info_str4
  have HI := Lib.hid hi4
  have HB := Lib.hid hp.blk
  have HLT := Lib.hid hp.blk.lt
  have hm := hp.map_
  have HM := Lib.hid hm
  have hcm : w.cell? ⟨g, 10, none⟩ = some (.map m) := by rw [hp.blk.cell]; exact hm
  clear hm hi4
  have HC0 : Hid (cs[0]? = some (.pointer none)) := Lib.hid (hp.rest (0, .pointer none) (by simp [restK]))
  have HC1 : Hid (cs[1]? = some (.pointer none)) := Lib.hid (hp.rest (1, .pointer none) (by simp [restK]))
  obtain ⟨p2, hc2, hb2⟩ := hp.ptr (List.mem_of_getElem? (show (fldK 0)[0]? = some (⟨#[99, 116, 121]⟩, 2, 0) from rfl)) (by decide)
  have HC2 : Hid (cs[2]? = some (.pointer p2)) := Lib.hid hc2
  have HB2 : Hid (p2.isSome = (lookG S ⟨#[99, 116, 121]⟩).isSome) := Lib.hid hb2
  clear hc2 hb2
  obtain ⟨p3, n3, c3, hc3, hb3⟩ := hp.sli (List.mem_of_getElem? (show (fldK 0)[1]? = some (⟨#[99, 114, 105, 116]⟩, 3, 2) from rfl)) rfl
  have HC3 : Hid (cs[3]? = some (.slice p3 n3 c3)) := Lib.hid hc3
  have HB3 : Hid (p3.isSome = (lookG S ⟨#[99, 114, 105, 116]⟩).isSome) := Lib.hid hb3
  clear hc3 hb3
  obtain ⟨p4, hc4, hb4⟩ := hp.ptr (List.mem_of_getElem? (show (fldK 0)[2]? = some (⟨#[106, 107, 117]⟩, 4, 0) from rfl)) (by decide)
  have HC4 : Hid (cs[4]? = some (.pointer p4)) := Lib.hid hc4
  have HB4 : Hid (p4.isSome = (lookG S ⟨#[106, 107, 117]⟩).isSome) := Lib.hid hb4
  clear hc4 hb4
  obtain ⟨p5, hc5, hb5⟩ := hp.ptr (List.mem_of_getElem? (show (fldK 0)[3]? = some (⟨#[107, 105, 100]⟩, 5, 0) from rfl)) (by decide)
  have HC5 : Hid (cs[5]? = some (.pointer p5)) := Lib.hid hc5
  have HB5 : Hid (p5.isSome = (lookG S ⟨#[107, 105, 100]⟩).isSome) := Lib.hid hb5
  clear hc5 hb5
  obtain ⟨p6, hc6, hb6⟩ := hp.ptr (List.mem_of_getElem? (show (fldK 0)[4]? = some (⟨#[116, 121, 112]⟩, 6, 0) from rfl)) (by decide)
  have HC6 : Hid (cs[6]? = some (.pointer p6)) := Lib.hid hc6
  have HB6 : Hid (p6.isSome = (lookG S ⟨#[116, 121, 112]⟩).isSome) := Lib.hid hb6
  clear hc6 hb6
  obtain ⟨p7, hc7, hb7⟩ := hp.ptr (List.mem_of_getElem? (show (fldK 0)[5]? = some (⟨#[120, 53, 116]⟩, 7, 0) from rfl)) (by decide)
  have HC7 : Hid (cs[7]? = some (.pointer p7)) := Lib.hid hc7
  have HB7 : Hid (p7.isSome = (lookG S ⟨#[120, 53, 116]⟩).isSome) := Lib.hid hb7
  clear hc7 hb7
  obtain ⟨p8, hc8, hb8⟩ := hp.ptr (List.mem_of_getElem? (show (fldK 0)[6]? = some (⟨#[120, 53, 116, 35, 83, 50, 53, 54]⟩, 8, 0) from rfl)) (by decide)
  have HC8 : Hid (cs[8]? = some (.pointer p8)) := Lib.hid hc8
  have HB8 : Hid (p8.isSome = (lookG S ⟨#[120, 53, 116, 35, 83, 50, 53, 54]⟩).isSome) := Lib.hid hb8
  clear hc8 hb8
  obtain ⟨p9, hc9, hb9⟩ := hp.ptr (List.mem_of_getElem? (show (fldK 0)[7]? = some (⟨#[120, 53, 117]⟩, 9, 0) from rfl)) (by decide)
  have HC9 : Hid (cs[9]? = some (.pointer p9)) := Lib.hid hc9
  have HB9 : Hid (p9.isSome = (lookG S ⟨#[120, 53, 117]⟩).isSome) := Lib.hid hb9
  clear hc9 hb9
  obtain ⟨N, hlen, hNl⟩ : ∃ N : Nat, (∀ ty, (Builtin.len_ #[169] ty #[.map m]).run Tryz.prog w = .ok (goInt N) w) ∧ N ≤ 100000 := by
    rcases hp.prv with ⟨rfl, _⟩ | ⟨mm, E, rfl, _, h3, h4, _⟩
    · exact ⟨0, fun ty => run_len_nilMap w _ _ (by kernel_rfl), by omega⟩
    · refine ⟨_, fun ty => len_map h3 ty, ?_⟩
      have e : E.length = (priv 0 S).length := by rw [← h4, List.length_map]
      rw [List.length_map, e]
      exact Nat.le_trans (List.length_filter_le _ _) hS
  have hwr : IntKind.i64.wrap ((12 : Int) + (N : Int)) = ((12 + N : Nat) : Int) := by rw [wrap_small _ (by omega) (by omega)]; omega
  have HWR := Lib.hid hNl
  have HS := Lib.hid hS
  clear hp hNl hS
  go_enter Tryz.func173, Tryz.ntmps173
  go_upto_region 2 with (at_make; refine wpList_make_own _ rfl _ _ 23 rfl w.heap.size 9 i0 (.string ByteArray.empty) 1 Tryz.underlying23 HI.out.1 HI.out.2.1 HI.out.2.2.1 .i64 .i64 _ (12 + N) rfl rfl (by first | rfl | exact hwr) (by rw [HI.out.2.2.2]; have := HWR.out; omega) (by unfold maxLen; have := HWR.out; omega) (Nat.le_refl _) ?_; intro wc hown hg0; have HK : Hid (KC w wc S (.slice (some ⟨w.heap.size, 0, none⟩) 0 (12 + N)) 0 0 []) := Lib.hid ⟨[], ⟨hown, (Below.refl w.heap.size w).grown hg0 (Nat.le_refl _) (by intro j hj; cases hj)⟩, rfl, Nat.le_refl _, List.Perm.nil⟩; clear hown hg0)
  clear hlen hwr hcm
  have HBW : Hid (Below w.heap.size w wc) := Lib.hid (by obtain ⟨L, hk, _⟩ := HK.out; exact hk.2)
  have hc : wc.cell? ⟨g, 0, none⟩ = some (.pointer none) := Blk.at_ HB.out HBW.out HLT.out HC0.out
  go_upto_region 4 with (fail)
  clear hc HBW
  have HBW : Hid (Below w.heap.size w wc) := Lib.hid (by obtain ⟨L, hk, _⟩ := HK.out; exact hk.2)
  have hc : wc.cell? ⟨g, 1, none⟩ = some (.pointer none) := Blk.at_ HB.out HBW.out HLT.out HC1.out
  go_upto_region 6 with (fail)
  clear hc HBW
  have HBW : Hid (Below w.heap.size w wc) := Lib.hid (by obtain ⟨L, hk, _⟩ := HK.out; exact hk.2)
  have hc : wc.cell? ⟨g, 2, none⟩ = some (.pointer p2) := Blk.at_ HB.out HBW.out HLT.out HC2.out
  go_upto_if 32 with (fail)
  go_cut [3] from 28 to 35 (fun v wx => ∃ A n c, v = .slice A n c ∧ Hid (KC w wx S (.slice A n c) n 1 (⟨#[99, 116, 121]⟩ :: [])))
  case first =>
    cases p2 with
    | none =>
      go_wp2_with fail
      go_meet
      case rel => exact ⟨_, _, _, rfl, HK.out.no HB2.out⟩
    | some q =>
      obtain ⟨L, hk, hn, hJ, hpm⟩ := HK.out
      have hL0 : L = [] := List.eq_nil_of_length_eq_zero hn.symm
      subst hL0
      have HQ := Lib.hid (And.intro hk (And.intro hJ hpm))
      clear HK hk hJ hpm hn
      go_wp2_with (at_builtin; refine own_app3 HQ.out.1.1 HQ.out.1.2.size HI.out (by show 0 < 1000000; omega) rfl _ _ rfl rfl rfl ?_; intro A8 c8 w8 hown hg8; have HK8 := Lib.hid (HQ.out.1.app hown hg8); clear hown hg8)
      go_meet
      case rel => exact ⟨_, _, _, rfl, KC.yes HK8.out HQ.out.2.1 HQ.out.2.2 HB2.out⟩
  case rest =>
    clear hc HBW HK HC2 HB2
    obtain ⟨A1, n1, c1, rfl, HK⟩ := hcut
    have HBW : Hid (Below w.heap.size w wc) := Lib.hid (by obtain ⟨L, hk, _⟩ := HK.out; exact hk.2)
    have hc : wc.cell? ⟨g, 3, none⟩ = some (.slice p3 n3 c3) := Blk.at_ HB.out HBW.out HLT.out HC3.out
    have hnil := fun W : World => Go.run_neq_slice_nil (P := Tryz.prog) W 23 9 p3 n3 c3 Tryz.underlying23
    go_upto_if 40 with (fail)
    go_cut [3] from 36 to 43 (fun v wx => ∃ A n c, v = .slice A n c ∧ Hid (KC w wx S (.slice A n c) n 2 (⟨#[99, 114, 105, 116]⟩ :: ⟨#[99, 116, 121]⟩ :: [])))
    case first =>
      cases p3 with
      | none =>
        go_wp2_with fail
        go_meet
        case rel => exact ⟨_, _, _, rfl, HK.out.no HB3.out⟩
      | some q =>
        obtain ⟨L, hk, hn, hJ, hpm⟩ := HK.out
        subst hn
        have HQ := Lib.hid (And.intro hk (And.intro hJ hpm))
        clear HK hk hJ hpm
        go_wp2_with (at_builtin; refine own_app3 HQ.out.1.1 HQ.out.1.2.size HI.out (by have := HQ.out.2.1; omega) rfl _ _ rfl rfl rfl ?_; intro A8 c8 w8 hown hg8; have HK8 := Lib.hid (HQ.out.1.app hown hg8); clear hown hg8)
        go_meet
        case rel => exact ⟨_, _, _, rfl, KC.yes HK8.out HQ.out.2.1 HQ.out.2.2 HB3.out⟩
    case rest =>
      clear hc HBW HK hnil HC3 HB3
      obtain ⟨A1, n1, c1, rfl, HK⟩ := hcut
      have HBW : Hid (Below w.heap.size w wc) := Lib.hid (by obtain ⟨L, hk, _⟩ := HK.out; exact hk.2)
      have hc : wc.cell? ⟨g, 4, none⟩ = some (.pointer p4) := Blk.at_ HB.out HBW.out HLT.out HC4.out
      go_upto_if 48 with (fail)
      go_cut [3] from 44 to 51 (fun v wx => ∃ A n c, v = .slice A n c ∧ Hid (KC w wx S (.slice A n c) n 3 (⟨#[106, 107, 117]⟩ :: ⟨#[99, 114, 105, 116]⟩ :: ⟨#[99, 116, 121]⟩ :: [])))
      case first =>
        cases p4 with
        | none =>
          go_wp2_with fail
          go_meet
          case rel => exact ⟨_, _, _, rfl, HK.out.no HB4.out⟩
        | some q =>
          obtain ⟨L, hk, hn, hJ, hpm⟩ := HK.out
          subst hn
          have HQ := Lib.hid (And.intro hk (And.intro hJ hpm))
          clear HK hk hJ hpm
          go_wp2_with (at_builtin; refine own_app3 HQ.out.1.1 HQ.out.1.2.size HI.out (by have := HQ.out.2.1; omega) rfl _ _ rfl rfl rfl ?_; intro A8 c8 w8 hown hg8; have HK8 := Lib.hid (HQ.out.1.app hown hg8); clear hown hg8)
          go_meet
          case rel => exact ⟨_, _, _, rfl, KC.yes HK8.out HQ.out.2.1 HQ.out.2.2 HB4.out⟩
      case rest =>
        clear hc HBW HK HC4 HB4
        obtain ⟨A1, n1, c1, rfl, HK⟩ := hcut
        have HBW : Hid (Below w.heap.size w wc) := Lib.hid (by obtain ⟨L, hk, _⟩ := HK.out; exact hk.2)
        have hc : wc.cell? ⟨g, 5, none⟩ = some (.pointer p5) := Blk.at_ HB.out HBW.out HLT.out HC5.out
        go_upto_if 56 with (fail)
        go_cut [3] from 52 to 59 (fun v wx => ∃ A n c, v = .slice A n c ∧ Hid (KC w wx S (.slice A n c) n 4 (⟨#[107, 105, 100]⟩ :: ⟨#[106, 107, 117]⟩ :: ⟨#[99, 114, 105, 116]⟩ :: ⟨#[99, 116, 121]⟩ :: [])))
        case first =>
          cases p5 with
          | none =>
            go_wp2_with fail
            go_meet
            case rel => exact ⟨_, _, _, rfl, HK.out.no HB5.out⟩
          | some q =>
            obtain ⟨L, hk, hn, hJ, hpm⟩ := HK.out
            subst hn
            have HQ := Lib.hid (And.intro hk (And.intro hJ hpm))
            clear HK hk hJ hpm
            go_wp2_with (at_builtin; refine own_app3 HQ.out.1.1 HQ.out.1.2.size HI.out (by have := HQ.out.2.1; omega) rfl _ _ rfl rfl rfl ?_; intro A8 c8 w8 hown hg8; have HK8 := Lib.hid (HQ.out.1.app hown hg8); clear hown hg8)
            go_meet
            case rel => exact ⟨_, _, _, rfl, KC.yes HK8.out HQ.out.2.1 HQ.out.2.2 HB5.out⟩
        case rest =>
          clear hc HBW HK HC5 HB5
          obtain ⟨A1, n1, c1, rfl, HK⟩ := hcut
          have HBW : Hid (Below w.heap.size w wc) := Lib.hid (by obtain ⟨L, hk, _⟩ := HK.out; exact hk.2)
          have hc : wc.cell? ⟨g, 6, none⟩ = some (.pointer p6) := Blk.at_ HB.out HBW.out HLT.out HC6.out
          go_upto_if 64 with (fail)
          go_cut [3] from 60 to 67 (fun v wx => ∃ A n c, v = .slice A n c ∧ Hid (KC w wx S (.slice A n c) n 5 (⟨#[116, 121, 112]⟩ :: ⟨#[107, 105, 100]⟩ :: ⟨#[106, 107, 117]⟩ :: ⟨#[99, 114, 105, 116]⟩ :: ⟨#[99, 116, 121]⟩ :: [])))
          case first =>
            cases p6 with
            | none =>
              go_wp2_with fail
              go_meet
              case rel => exact ⟨_, _, _, rfl, HK.out.no HB6.out⟩
            | some q =>
              obtain ⟨L, hk, hn, hJ, hpm⟩ := HK.out
              subst hn
              have HQ := Lib.hid (And.intro hk (And.intro hJ hpm))
              clear HK hk hJ hpm
              go_wp2_with (at_builtin; refine own_app3 HQ.out.1.1 HQ.out.1.2.size HI.out (by have := HQ.out.2.1; omega) rfl _ _ rfl rfl rfl ?_; intro A8 c8 w8 hown hg8; have HK8 := Lib.hid (HQ.out.1.app hown hg8); clear hown hg8)
              go_meet
              case rel => exact ⟨_, _, _, rfl, KC.yes HK8.out HQ.out.2.1 HQ.out.2.2 HB6.out⟩
          case rest =>
            clear hc HBW HK HC6 HB6
            obtain ⟨A1, n1, c1, rfl, HK⟩ := hcut
            have HBW : Hid (Below w.heap.size w wc) := Lib.hid (by obtain ⟨L, hk, _⟩ := HK.out; exact hk.2)
            have hc : wc.cell? ⟨g, 7, none⟩ = some (.pointer p7) := Blk.at_ HB.out HBW.out HLT.out HC7.out
            go_upto_if 72 with (fail)
            go_cut [3] from 68 to 75 (fun v wx => ∃ A n c, v = .slice A n c ∧ Hid (KC w wx S (.slice A n c) n 6 (⟨#[120, 53, 116]⟩ :: ⟨#[116, 121, 112]⟩ :: ⟨#[107, 105, 100]⟩ :: ⟨#[106, 107, 117]⟩ :: ⟨#[99, 114, 105, 116]⟩ :: ⟨#[99, 116, 121]⟩ :: [])))
            case first =>
              cases p7 with
              | none =>
                go_wp2_with fail
                go_meet
                case rel => exact ⟨_, _, _, rfl, HK.out.no HB7.out⟩
              | some q =>
                obtain ⟨L, hk, hn, hJ, hpm⟩ := HK.out
                subst hn
                have HQ := Lib.hid (And.intro hk (And.intro hJ hpm))
                clear HK hk hJ hpm
                go_wp2_with (at_builtin; refine own_app3 HQ.out.1.1 HQ.out.1.2.size HI.out (by have := HQ.out.2.1; omega) rfl _ _ rfl rfl rfl ?_; intro A8 c8 w8 hown hg8; have HK8 := Lib.hid (HQ.out.1.app hown hg8); clear hown hg8)
                go_meet
                case rel => exact ⟨_, _, _, rfl, KC.yes HK8.out HQ.out.2.1 HQ.out.2.2 HB7.out⟩
            case rest =>
              clear hc HBW HK HC7 HB7
              obtain ⟨A1, n1, c1, rfl, HK⟩ := hcut
              have HBW : Hid (Below w.heap.size w wc) := Lib.hid (by obtain ⟨L, hk, _⟩ := HK.out; exact hk.2)
              have hc : wc.cell? ⟨g, 8, none⟩ = some (.pointer p8) := Blk.at_ HB.out HBW.out HLT.out HC8.out
              go_upto_if 80 with (fail)
              go_cut [3] from 76 to 83 (fun v wx => ∃ A n c, v = .slice A n c ∧ Hid (KC w wx S (.slice A n c) n 7 (⟨#[120, 53, 116, 35, 83, 50, 53, 54]⟩ :: ⟨#[120, 53, 116]⟩ :: ⟨#[116, 121, 112]⟩ :: ⟨#[107, 105, 100]⟩ :: ⟨#[106, 107, 117]⟩ :: ⟨#[99, 114, 105, 116]⟩ :: ⟨#[99, 116, 121]⟩ :: [])))
              case first =>
                cases p8 with
                | none =>
                  go_wp2_with fail
                  go_meet
                  case rel => exact ⟨_, _, _, rfl, HK.out.no HB8.out⟩
                | some q =>
                  obtain ⟨L, hk, hn, hJ, hpm⟩ := HK.out
                  subst hn
                  have HQ := Lib.hid (And.intro hk (And.intro hJ hpm))
                  clear HK hk hJ hpm
                  go_wp2_with (at_builtin; refine own_app3 HQ.out.1.1 HQ.out.1.2.size HI.out (by have := HQ.out.2.1; omega) rfl _ _ rfl rfl rfl ?_; intro A8 c8 w8 hown hg8; have HK8 := Lib.hid (HQ.out.1.app hown hg8); clear hown hg8)
                  go_meet
                  case rel => exact ⟨_, _, _, rfl, KC.yes HK8.out HQ.out.2.1 HQ.out.2.2 HB8.out⟩
              case rest =>
                clear hc HBW HK HC8 HB8
                obtain ⟨A1, n1, c1, rfl, HK⟩ := hcut
                have HBW : Hid (Below w.heap.size w wc) := Lib.hid (by obtain ⟨L, hk, _⟩ := HK.out; exact hk.2)
                have hc : wc.cell? ⟨g, 9, none⟩ = some (.pointer p9) := Blk.at_ HB.out HBW.out HLT.out HC9.out
                go_upto_if 88 with (fail)
                go_cut [3] from 84 to 91 (fun v wx => ∃ A n c, v = .slice A n c ∧ Hid (KC w wx S (.slice A n c) n 8 (⟨#[120, 53, 117]⟩ :: ⟨#[120, 53, 116, 35, 83, 50, 53, 54]⟩ :: ⟨#[120, 53, 116]⟩ :: ⟨#[116, 121, 112]⟩ :: ⟨#[107, 105, 100]⟩ :: ⟨#[106, 107, 117]⟩ :: ⟨#[99, 114, 105, 116]⟩ :: ⟨#[99, 116, 121]⟩ :: [])))
                case first =>
                  cases p9 with
                  | none =>
                    go_wp2_with fail
                    go_meet
                    case rel => exact ⟨_, _, _, rfl, HK.out.no HB9.out⟩
                  | some q =>
                    obtain ⟨L, hk, hn, hJ, hpm⟩ := HK.out
                    subst hn
                    have HQ := Lib.hid (And.intro hk (And.intro hJ hpm))
                    clear HK hk hJ hpm
                    go_wp2_with (at_builtin; refine own_app3 HQ.out.1.1 HQ.out.1.2.size HI.out (by have := HQ.out.2.1; omega) rfl _ _ rfl rfl rfl ?_; intro A8 c8 w8 hown hg8; have HK8 := Lib.hid (HQ.out.1.app hown hg8); clear hown hg8)
                    go_meet
                    case rel => exact ⟨_, _, _, rfl, KC.yes HK8.out HQ.out.2.1 HQ.out.2.2 HB9.out⟩
                case rest =>
                  clear hc HBW HK HC9 HB9
                  obtain ⟨A1, n1, c1, rfl, HK⟩ := hcut
                  obtain ⟨L0, hk, hn, hJ, hpm⟩ := HK.out
                  subst hn
                  have HQ := Lib.hid (And.intro hk (And.intro hJ (hpm.trans ((List.reverse_perm ((fldK 0).map (·.1))).filter _))))
                  clear HK hk hJ hpm
                  have hcm : wc.cell? ⟨g, 10, none⟩ = some (.map m) := Blk.at_ HB.out HQ.out.1.2 HLT.out HM.out
                  rcases HP.out.prv with ⟨rfl, h0⟩ | ⟨mm, E, rfl, _, h3, h4, _⟩
                  · have hrng := run_range_nilMap (P := Tryz.prog) wc 169 _ _ Tryz.underlying169
                    have hnx := fun ty => run_next_nilMap (P := Tryz.prog) wc ty 0 0 #[]
                    have H0 := Lib.hid h0
                    clear h0
                    go_wp2_with fail
                    refine wp_loop_rounds 1 ?_
                    rw [rounds_succ]
                    go_wp2
                    go_ret
                    exact ⟨_, _, _, _, rfl, HQ.out.1.1.alloc _, (by have h := keys_end HP.out.nd HQ.out.2.2 (Ns := []) (by rw [H0.out]; exact List.Perm.nil); rw [List.append_nil] at h; exact h), below_alloc' HQ.out.1.2 _⟩
                  · obtain ⟨w4, hrng, hR4, hg4, _⟩ := run_range (P := Tryz.prog) Tryz.underlying169 wc mm _ (h3.below HQ.out.1.2 h3.lt)
                    have hnd : ((E.map fun t => (t.1, t.2.1)).map (·.1)) = (priv 0 S).map (·.1) := by rw [← h4, List.map_map, List.map_map]; rfl
                    have HND := Lib.hid hnd
                    obtain ⟨L, hL⟩ : ∃ L, L = E.map fun t => (t.1, t.2.1) := ⟨_, rfl⟩
                    rw [← hL] at hR4 HND
                    have HNN : Hid ((L.map (·.1)).Nodup) := Lib.hid (by rw [HND.out]; exact (List.filter_sublist.map _).nodup HP.out.nd)
                    have HLL : Hid (L.length ≤ 100000) := Lib.hid (by have e := congrArg List.length HND.out; rw [List.length_map, List.length_map] at e; rw [e]; exact Nat.le_trans (List.length_filter_le _ _) HS.out)
                    have HR := Lib.hid (KRng.start HQ.out.1 hR4 hg4 HQ.out.1.2.size)
                    have HQ2 := Lib.hid HQ.out.2
                    clear h3 h4 hnd hL hR4 hg4 HQ
                    go_wp2_with fail
                    go_loopg [3, 4] (togo L []) (fun q v3 v4 wr => ∃ ds A n c, q = togo L ds ∧ v3 = .slice A n c ∧ Hid (KRng w wr mm wc.heap.size L L0 ds (.slice A n c) ∧ n = (L0 ++ ds.map (·.1)).length))
                    case atStart => exact ⟨[], _, _, _, rfl, rfl, HR.out, by simp⟩
                    case round =>
                      clear HR
                      obtain ⟨ds, A, n, c, hk, rfl, HR⟩ := hrel
                      have HKK := Lib.hid hk
                      clear hk
                      rcases HR.out.1.rg.next (P := Tryz.prog) 0 HNN.out with ⟨hall, hrun⟩ | ⟨q, hq, hf, w5, hrun, hR5, hg5, hent⟩
                      · have HA := Lib.hid hall
                        clear hall
                        go_wp2
                        go_ret
                        have hsub := HR.out.1.rg.sub
                        have hpm := (all_perm HNN.out hsub.2 hsub.1 HA.out).map (·.1)
                        have ho := HR.out.1.kr.1
                        rw [← HR.out.2] at ho
                        exact ⟨_, _, _, _, rfl, ho, keys_end HP.out.nd HQ2.out.2 (hpm.trans (by rw [HND.out])), HR.out.1.kr.2⟩
                      · have HH := Lib.hid (And.intro hq (And.intro hf (And.intro hR5 hg5)))
                        have HN : Hid (n < 1000000) := Lib.hid (by
                          have h1 := HR.out.2
                          have h2 := HQ2.out.1
                          have hsub := HR.out.1.rg.sub
                          have h3 : ds.length ≤ L.length := nodup_len hsub.2 hsub.1
                          have h4 := HLL.out
                          rw [List.length_append, List.length_map] at h1
                          omega)
                        have HO5 := Lib.hid (HR.out.1.own5 hg5)
                        clear hq hf hR5 hg5
                        go_wp2_with (at_builtin; refine own_app3 (by have h := HO5.out.1; rwa [← HR.out.2] at h) HO5.out.2 HI.out HN.out rfl _ _ rfl rfl rfl ?_; intro A8 c8 w8 hown hg8; have HK8 := Lib.hid (HR.out.1.step HH.out.2.2.1 HH.out.2.2.2 hown hg8 HR.out.2); clear hown hg8)
                        go_roundg (togo L (ds ++ [q]))
                        case measure => rw [HKK.out]; exact togo_less HH.out.1 HH.out.2.1
                        case rel => exact ⟨ds ++ [q], _, _, _, rfl, rfl, HK8.out, by have := HR.out.2; simp at this ⊢; omega⟩
end Go.Proofs.YtapjbdigpleekaaGreat.Mp

/- Keys of another kind of maps; the conditions are on what lies in memory. Printed by gen_mpkeys.py. -/
set_option linter.unusedVariables false
set_option linter.unusedSimpArgs false
namespace Go.Proofs.YtapjbdigpleekaaGreat.Mp
open Go.RowKit Go.Proofs.YtapjbdigpleekaaGreat.K Go.Proofs.YtapjbdigpleekaaGreat.Cl
set_option maxRecDepth 100000 in
set_option maxHeartbeats 8000000 in
theorem jwe_Keys {w : World} {B g : Nat} {S : List (ByteArray × PV)} (h : Hd 1 w B g S) (hS : S.length ≤ 100000) :
    Calls Tryz.prog 210 #[.pointer (some ⟨g, 0, none⟩)] w (KeysP w (S.map (·.1))) := by
  obtain ⟨cs, m, hp⟩ := h
  have HP := Lib.hid hp
  obtain ⟨i0, hi4⟩ := info_str4
  have HI := Lib.hid hi4
  have HB := Lib.hid hp.blk
  have HLT := Lib.hid hp.blk.lt
  have hm := hp.map_
  have HM := Lib.hid hm
  have hcm : w.cell? ⟨g, 13, none⟩ = some (.map m) := by rw [hp.blk.cell]; exact hm
  clear hm hi4
  have HC0 : Hid (cs[0]? = some (.slice none 0 0)) := Lib.hid (hp.rest (0, .slice none 0 0) (by simp [restK]))
  have HC1 : Hid (cs[1]? = some (.slice none 0 0)) := Lib.hid (hp.rest (1, .slice none 0 0) (by simp [restK]))
  have HC2 : Hid (cs[2]? = some (.pointer none)) := Lib.hid (hp.rest (2, .pointer none) (by simp [restK]))
  have HC3 : Hid (cs[3]? = some (.pointer none)) := Lib.hid (hp.rest (3, .pointer none) (by simp [restK]))
  have HC4 : Hid (cs[4]? = some (.pointer none)) := Lib.hid (hp.rest (4, .pointer none) (by simp [restK]))
  obtain ⟨p5, hc5, hb5⟩ := hp.ptr (List.mem_of_getElem? (show (fldK 1)[0]? = some (⟨#[99, 116, 121]⟩, 5, 0) from rfl)) (by decide)
  have HC5 : Hid (cs[5]? = some (.pointer p5)) := Lib.hid hc5
  have HB5 : Hid (p5.isSome = (lookG S ⟨#[99, 116, 121]⟩).isSome) := Lib.hid hb5
  clear hc5 hb5
  obtain ⟨p6, n6, c6, hc6, hb6⟩ := hp.sli (List.mem_of_getElem? (show (fldK 1)[1]? = some (⟨#[99, 114, 105, 116]⟩, 6, 2) from rfl)) rfl
  have HC6 : Hid (cs[6]? = some (.slice p6 n6 c6)) := Lib.hid hc6
  have HB6 : Hid (p6.isSome = (lookG S ⟨#[99, 114, 105, 116]⟩).isSome) := Lib.hid hb6
  clear hc6 hb6
  obtain ⟨p7, hc7, hb7⟩ := hp.ptr (List.mem_of_getElem? (show (fldK 1)[2]? = some (⟨#[106, 107, 117]⟩, 7, 0) from rfl)) (by decide)
  have HC7 : Hid (cs[7]? = some (.pointer p7)) := Lib.hid hc7
  have HB7 : Hid (p7.isSome = (lookG S ⟨#[106, 107, 117]⟩).isSome) := Lib.hid hb7
  clear hc7 hb7
  obtain ⟨p8, hc8, hb8⟩ := hp.ptr (List.mem_of_getElem? (show (fldK 1)[3]? = some (⟨#[107, 105, 100]⟩, 8, 0) from rfl)) (by decide)
  have HC8 : Hid (cs[8]? = some (.pointer p8)) := Lib.hid hc8
  have HB8 : Hid (p8.isSome = (lookG S ⟨#[107, 105, 100]⟩).isSome) := Lib.hid hb8
  clear hc8 hb8
  obtain ⟨p9, hc9, hb9⟩ := hp.ptr (List.mem_of_getElem? (show (fldK 1)[4]? = some (⟨#[116, 121, 112]⟩, 9, 0) from rfl)) (by decide)
  have HC9 : Hid (cs[9]? = some (.pointer p9)) := Lib.hid hc9
  have HB9 : Hid (p9.isSome = (lookG S ⟨#[116, 121, 112]⟩).isSome) := Lib.hid hb9
  clear hc9 hb9
  obtain ⟨p10, hc10, hb10⟩ := hp.ptr (List.mem_of_getElem? (show (fldK 1)[5]? = some (⟨#[120, 53, 116]⟩, 10, 0) from rfl)) (by decide)
  have HC10 : Hid (cs[10]? = some (.pointer p10)) := Lib.hid hc10
  have HB10 : Hid (p10.isSome = (lookG S ⟨#[120, 53, 116]⟩).isSome) := Lib.hid hb10
  clear hc10 hb10
  obtain ⟨p11, hc11, hb11⟩ := hp.ptr (List.mem_of_getElem? (show (fldK 1)[6]? = some (⟨#[120, 53, 116, 35, 83, 50, 53, 54]⟩, 11, 0) from rfl)) (by decide)
  have HC11 : Hid (cs[11]? = some (.pointer p11)) := Lib.hid hc11
  have HB11 : Hid (p11.isSome = (lookG S ⟨#[120, 53, 116, 35, 83, 50, 53, 54]⟩).isSome) := Lib.hid hb11
  clear hc11 hb11
  obtain ⟨p12, hc12, hb12⟩ := hp.ptr (List.mem_of_getElem? (show (fldK 1)[7]? = some (⟨#[120, 53, 117]⟩, 12, 0) from rfl)) (by decide)
  have HC12 : Hid (cs[12]? = some (.pointer p12)) := Lib.hid hc12
  have HB12 : Hid (p12.isSome = (lookG S ⟨#[120, 53, 117]⟩).isSome) := Lib.hid hb12
  clear hc12 hb12
  obtain ⟨N, hlen, hNl⟩ : ∃ N : Nat, (∀ ty, (Builtin.len_ #[169] ty #[.map m]).run Tryz.prog w = .ok (goInt N) w) ∧ N ≤ 100000 := by
    rcases hp.prv with ⟨rfl, _⟩ | ⟨mm, E, rfl, _, h3, h4, _⟩
    · exact ⟨0, fun ty => run_len_nilMap w _ _ (by kernel_rfl), by omega⟩
    · refine ⟨_, fun ty => len_map h3 ty, ?_⟩
      have e : E.length = (priv 1 S).length := by rw [← h4, List.length_map]
      rw [List.length_map, e]
      exact Nat.le_trans (List.length_filter_le _ _) hS
  have hwr : IntKind.i64.wrap ((16 : Int) + (N : Int)) = ((16 + N : Nat) : Int) := by rw [wrap_small _ (by omega) (by omega)]; omega
  have HWR := Lib.hid hNl
  have HS := Lib.hid hS
  clear hp hNl hS
  go_enter Tryz.func210, Tryz.ntmps210
  go_upto_region 2 with (at_make; refine wpList_make_own _ rfl _ _ 23 rfl w.heap.size 9 i0 (.string ByteArray.empty) 1 Tryz.underlying23 HI.out.1 HI.out.2.1 HI.out.2.2.1 .i64 .i64 _ (16 + N) rfl rfl (by first | rfl | exact hwr) (by rw [HI.out.2.2.2]; have := HWR.out; omega) (by unfold maxLen; have := HWR.out; omega) (Nat.le_refl _) ?_; intro wc hown hg0; have HK : Hid (KC w wc S (.slice (some ⟨w.heap.size, 0, none⟩) 0 (16 + N)) 0 0 []) := Lib.hid ⟨[], ⟨hown, (Below.refl w.heap.size w).grown hg0 (Nat.le_refl _) (by intro j hj; cases hj)⟩, rfl, Nat.le_refl _, List.Perm.nil⟩; clear hown hg0)
  clear hlen hwr hcm
  have HBW : Hid (Below w.heap.size w wc) := Lib.hid (by obtain ⟨L, hk, _⟩ := HK.out; exact hk.2)
  have hc : wc.cell? ⟨g, 0, none⟩ = some (.slice none 0 0) := Blk.at_ HB.out HBW.out HLT.out HC0.out
  have hnil := fun W : World => Go.run_neq_slice_nil (P := Tryz.prog) W 193 5 none 0 0 Tryz.underlying193
  go_upto_region 4 with (fail)
  clear hc HBW hnil
  have HBW : Hid (Below w.heap.size w wc) := Lib.hid (by obtain ⟨L, hk, _⟩ := HK.out; exact hk.2)
  have hc : wc.cell? ⟨g, 1, none⟩ = some (.slice none 0 0) := Blk.at_ HB.out HBW.out HLT.out HC1.out
  have hnil := fun W : World => Go.run_neq_slice_nil (P := Tryz.prog) W 193 5 none 0 0 Tryz.underlying193
  go_upto_region 6 with (fail)
  clear hc HBW hnil
  have HBW : Hid (Below w.heap.size w wc) := Lib.hid (by obtain ⟨L, hk, _⟩ := HK.out; exact hk.2)
  have hc : wc.cell? ⟨g, 2, none⟩ = some (.pointer none) := Blk.at_ HB.out HBW.out HLT.out HC2.out
  go_upto_region 8 with (fail)
  clear hc HBW
  have HBW : Hid (Below w.heap.size w wc) := Lib.hid (by obtain ⟨L, hk, _⟩ := HK.out; exact hk.2)
  have hc : wc.cell? ⟨g, 3, none⟩ = some (.pointer none) := Blk.at_ HB.out HBW.out HLT.out HC3.out
  go_upto_region 10 with (fail)
  clear hc HBW
  have HBW : Hid (Below w.heap.size w wc) := Lib.hid (by obtain ⟨L, hk, _⟩ := HK.out; exact hk.2)
  have hc : wc.cell? ⟨g, 4, none⟩ = some (.pointer none) := Blk.at_ HB.out HBW.out HLT.out HC4.out
  go_upto_region 12 with (fail)
  clear hc HBW
  have HBW : Hid (Below w.heap.size w wc) := Lib.hid (by obtain ⟨L, hk, _⟩ := HK.out; exact hk.2)
  have hc : wc.cell? ⟨g, 5, none⟩ = some (.pointer p5) := Blk.at_ HB.out HBW.out HLT.out HC5.out
  go_upto_if 56 with (fail)
  go_cut [3] from 52 to 59 (fun v wx => ∃ A n c, v = .slice A n c ∧ Hid (KC w wx S (.slice A n c) n 1 (⟨#[99, 116, 121]⟩ :: [])))
  case first =>
    cases p5 with
    | none =>
      go_wp2_with fail
      go_meet
      case rel => exact ⟨_, _, _, rfl, HK.out.no HB5.out⟩
    | some q =>
      obtain ⟨L, hk, hn, hJ, hpm⟩ := HK.out
      have hL0 : L = [] := List.eq_nil_of_length_eq_zero hn.symm
      subst hL0
      have HQ := Lib.hid (And.intro hk (And.intro hJ hpm))
      clear HK hk hJ hpm hn
      go_wp2_with (at_builtin; refine own_app3 HQ.out.1.1 HQ.out.1.2.size HI.out (by show 0 < 1000000; omega) rfl _ _ rfl rfl rfl ?_; intro A8 c8 w8 hown hg8; have HK8 := Lib.hid (HQ.out.1.app hown hg8); clear hown hg8)
      go_meet
      case rel => exact ⟨_, _, _, rfl, KC.yes HK8.out HQ.out.2.1 HQ.out.2.2 HB5.out⟩
  case rest =>
    clear hc HBW HK HC5 HB5
    obtain ⟨A1, n1, c1, rfl, HK⟩ := hcut
    have HBW : Hid (Below w.heap.size w wc) := Lib.hid (by obtain ⟨L, hk, _⟩ := HK.out; exact hk.2)
    have hc : wc.cell? ⟨g, 6, none⟩ = some (.slice p6 n6 c6) := Blk.at_ HB.out HBW.out HLT.out HC6.out
    have hnil := fun W : World => Go.run_neq_slice_nil (P := Tryz.prog) W 23 9 p6 n6 c6 Tryz.underlying23
    go_upto_if 64 with (fail)
    go_cut [3] from 60 to 67 (fun v wx => ∃ A n c, v = .slice A n c ∧ Hid (KC w wx S (.slice A n c) n 2 (⟨#[99, 114, 105, 116]⟩ :: ⟨#[99, 116, 121]⟩ :: [])))
    case first =>
      cases p6 with
      | none =>
        go_wp2_with fail
        go_meet
        case rel => exact ⟨_, _, _, rfl, HK.out.no HB6.out⟩
      | some q =>
        obtain ⟨L, hk, hn, hJ, hpm⟩ := HK.out
        subst hn
        have HQ := Lib.hid (And.intro hk (And.intro hJ hpm))
        clear HK hk hJ hpm
        go_wp2_with (at_builtin; refine own_app3 HQ.out.1.1 HQ.out.1.2.size HI.out (by have := HQ.out.2.1; omega) rfl _ _ rfl rfl rfl ?_; intro A8 c8 w8 hown hg8; have HK8 := Lib.hid (HQ.out.1.app hown hg8); clear hown hg8)
        go_meet
        case rel => exact ⟨_, _, _, rfl, KC.yes HK8.out HQ.out.2.1 HQ.out.2.2 HB6.out⟩
    case rest =>
      clear hc HBW HK hnil HC6 HB6
      obtain ⟨A1, n1, c1, rfl, HK⟩ := hcut
      have HBW : Hid (Below w.heap.size w wc) := Lib.hid (by obtain ⟨L, hk, _⟩ := HK.out; exact hk.2)
      have hc : wc.cell? ⟨g, 7, none⟩ = some (.pointer p7) := Blk.at_ HB.out HBW.out HLT.out HC7.out
      go_upto_if 72 with (fail)
      go_cut [3] from 68 to 75 (fun v wx => ∃ A n c, v = .slice A n c ∧ Hid (KC w wx S (.slice A n c) n 3 (⟨#[106, 107, 117]⟩ :: ⟨#[99, 114, 105, 116]⟩ :: ⟨#[99, 116, 121]⟩ :: [])))
      case first =>
        cases p7 with
        | none =>
          go_wp2_with fail
          go_meet
          case rel => exact ⟨_, _, _, rfl, HK.out.no HB7.out⟩
        | some q =>
          obtain ⟨L, hk, hn, hJ, hpm⟩ := HK.out
          subst hn
          have HQ := Lib.hid (And.intro hk (And.intro hJ hpm))
          clear HK hk hJ hpm
          go_wp2_with (at_builtin; refine own_app3 HQ.out.1.1 HQ.out.1.2.size HI.out (by have := HQ.out.2.1; omega) rfl _ _ rfl rfl rfl ?_; intro A8 c8 w8 hown hg8; have HK8 := Lib.hid (HQ.out.1.app hown hg8); clear hown hg8)
          go_meet
          case rel => exact ⟨_, _, _, rfl, KC.yes HK8.out HQ.out.2.1 HQ.out.2.2 HB7.out⟩
      case rest =>
        clear hc HBW HK HC7 HB7
        obtain ⟨A1, n1, c1, rfl, HK⟩ := hcut
        have HBW : Hid (Below w.heap.size w wc) := Lib.hid (by obtain ⟨L, hk, _⟩ := HK.out; exact hk.2)
        have hc : wc.cell? ⟨g, 8, none⟩ = some (.pointer p8) := Blk.at_ HB.out HBW.out HLT.out HC8.out
        go_upto_if 80 with (fail)
        go_cut [3] from 76 to 83 (fun v wx => ∃ A n c, v = .slice A n c ∧ Hid (KC w wx S (.slice A n c) n 4 (⟨#[107, 105, 100]⟩ :: ⟨#[106, 107, 117]⟩ :: ⟨#[99, 114, 105, 116]⟩ :: ⟨#[99, 116, 121]⟩ :: [])))
        case first =>
          cases p8 with
          | none =>
            go_wp2_with fail
            go_meet
            case rel => exact ⟨_, _, _, rfl, HK.out.no HB8.out⟩
          | some q =>
            obtain ⟨L, hk, hn, hJ, hpm⟩ := HK.out
            subst hn
            have HQ := Lib.hid (And.intro hk (And.intro hJ hpm))
            clear HK hk hJ hpm
            go_wp2_with (at_builtin; refine own_app3 HQ.out.1.1 HQ.out.1.2.size HI.out (by have := HQ.out.2.1; omega) rfl _ _ rfl rfl rfl ?_; intro A8 c8 w8 hown hg8; have HK8 := Lib.hid (HQ.out.1.app hown hg8); clear hown hg8)
            go_meet
            case rel => exact ⟨_, _, _, rfl, KC.yes HK8.out HQ.out.2.1 HQ.out.2.2 HB8.out⟩
        case rest =>
          clear hc HBW HK HC8 HB8
          obtain ⟨A1, n1, c1, rfl, HK⟩ := hcut
          have HBW : Hid (Below w.heap.size w wc) := Lib.hid (by obtain ⟨L, hk, _⟩ := HK.out; exact hk.2)
          have hc : wc.cell? ⟨g, 9, none⟩ = some (.pointer p9) := Blk.at_ HB.out HBW.out HLT.out HC9.out
          go_upto_if 88 with (fail)
          go_cut [3] from 84 to 91 (fun v wx => ∃ A n c, v = .slice A n c ∧ Hid (KC w wx S (.slice A n c) n 5 (⟨#[116, 121, 112]⟩ :: ⟨#[107, 105, 100]⟩ :: ⟨#[106, 107, 117]⟩ :: ⟨#[99, 114, 105, 116]⟩ :: ⟨#[99, 116, 121]⟩ :: [])))
          case first =>
            cases p9 with
            | none =>
              go_wp2_with fail
              go_meet
              case rel => exact ⟨_, _, _, rfl, HK.out.no HB9.out⟩
            | some q =>
              obtain ⟨L, hk, hn, hJ, hpm⟩ := HK.out
              subst hn
              have HQ := Lib.hid (And.intro hk (And.intro hJ hpm))
              clear HK hk hJ hpm
              go_wp2_with (at_builtin; refine own_app3 HQ.out.1.1 HQ.out.1.2.size HI.out (by have := HQ.out.2.1; omega) rfl _ _ rfl rfl rfl ?_; intro A8 c8 w8 hown hg8; have HK8 := Lib.hid (HQ.out.1.app hown hg8); clear hown hg8)
              go_meet
              case rel => exact ⟨_, _, _, rfl, KC.yes HK8.out HQ.out.2.1 HQ.out.2.2 HB9.out⟩
          case rest =>
            clear hc HBW HK HC9 HB9
            obtain ⟨A1, n1, c1, rfl, HK⟩ := hcut
            have HBW : Hid (Below w.heap.size w wc) := Lib.hid (by obtain ⟨L, hk, _⟩ := HK.out; exact hk.2)
            have hc : wc.cell? ⟨g, 10, none⟩ = some (.pointer p10) := Blk.at_ HB.out HBW.out HLT.out HC10.out
            go_upto_if 96 with (fail)
            go_cut [3] from 92 to 99 (fun v wx => ∃ A n c, v = .slice A n c ∧ Hid (KC w wx S (.slice A n c) n 6 (⟨#[120, 53, 116]⟩ :: ⟨#[116, 121, 112]⟩ :: ⟨#[107, 105, 100]⟩ :: ⟨#[106, 107, 117]⟩ :: ⟨#[99, 114, 105, 116]⟩ :: ⟨#[99, 116, 121]⟩ :: [])))
            case first =>
              cases p10 with
              | none =>
                go_wp2_with fail
                go_meet
                case rel => exact ⟨_, _, _, rfl, HK.out.no HB10.out⟩
              | some q =>
                obtain ⟨L, hk, hn, hJ, hpm⟩ := HK.out
                subst hn
                have HQ := Lib.hid (And.intro hk (And.intro hJ hpm))
                clear HK hk hJ hpm
                go_wp2_with (at_builtin; refine own_app3 HQ.out.1.1 HQ.out.1.2.size HI.out (by have := HQ.out.2.1; omega) rfl _ _ rfl rfl rfl ?_; intro A8 c8 w8 hown hg8; have HK8 := Lib.hid (HQ.out.1.app hown hg8); clear hown hg8)
                go_meet
                case rel => exact ⟨_, _, _, rfl, KC.yes HK8.out HQ.out.2.1 HQ.out.2.2 HB10.out⟩
            case rest =>
              clear hc HBW HK HC10 HB10
              obtain ⟨A1, n1, c1, rfl, HK⟩ := hcut
              have HBW : Hid (Below w.heap.size w wc) := Lib.hid (by obtain ⟨L, hk, _⟩ := HK.out; exact hk.2)
              have hc : wc.cell? ⟨g, 11, none⟩ = some (.pointer p11) := Blk.at_ HB.out HBW.out HLT.out HC11.out
              go_upto_if 104 with (fail)
              go_cut [3] from 100 to 107 (fun v wx => ∃ A n c, v = .slice A n c ∧ Hid (KC w wx S (.slice A n c) n 7 (⟨#[120, 53, 116, 35, 83, 50, 53, 54]⟩ :: ⟨#[120, 53, 116]⟩ :: ⟨#[116, 121, 112]⟩ :: ⟨#[107, 105, 100]⟩ :: ⟨#[106, 107, 117]⟩ :: ⟨#[99, 114, 105, 116]⟩ :: ⟨#[99, 116, 121]⟩ :: [])))
              case first =>
                cases p11 with
                | none =>
                  go_wp2_with fail
                  go_meet
                  case rel => exact ⟨_, _, _, rfl, HK.out.no HB11.out⟩
                | some q =>
                  obtain ⟨L, hk, hn, hJ, hpm⟩ := HK.out
                  subst hn
                  have HQ := Lib.hid (And.intro hk (And.intro hJ hpm))
                  clear HK hk hJ hpm
                  go_wp2_with (at_builtin; refine own_app3 HQ.out.1.1 HQ.out.1.2.size HI.out (by have := HQ.out.2.1; omega) rfl _ _ rfl rfl rfl ?_; intro A8 c8 w8 hown hg8; have HK8 := Lib.hid (HQ.out.1.app hown hg8); clear hown hg8)
                  go_meet
                  case rel => exact ⟨_, _, _, rfl, KC.yes HK8.out HQ.out.2.1 HQ.out.2.2 HB11.out⟩
              case rest =>
                clear hc HBW HK HC11 HB11
                obtain ⟨A1, n1, c1, rfl, HK⟩ := hcut
                have HBW : Hid (Below w.heap.size w wc) := Lib.hid (by obtain ⟨L, hk, _⟩ := HK.out; exact hk.2)
                have hc : wc.cell? ⟨g, 12, none⟩ = some (.pointer p12) := Blk.at_ HB.out HBW.out HLT.out HC12.out
                go_upto_if 112 with (fail)
                go_cut [3] from 108 to 115 (fun v wx => ∃ A n c, v = .slice A n c ∧ Hid (KC w wx S (.slice A n c) n 8 (⟨#[120, 53, 117]⟩ :: ⟨#[120, 53, 116, 35, 83, 50, 53, 54]⟩ :: ⟨#[120, 53, 116]⟩ :: ⟨#[116, 121, 112]⟩ :: ⟨#[107, 105, 100]⟩ :: ⟨#[106, 107, 117]⟩ :: ⟨#[99, 114, 105, 116]⟩ :: ⟨#[99, 116, 121]⟩ :: [])))
                case first =>
                  cases p12 with
                  | none =>
                    go_wp2_with fail
                    go_meet
                    case rel => exact ⟨_, _, _, rfl, HK.out.no HB12.out⟩
                  | some q =>
                    obtain ⟨L, hk, hn, hJ, hpm⟩ := HK.out
                    subst hn
                    have HQ := Lib.hid (And.intro hk (And.intro hJ hpm))
                    clear HK hk hJ hpm
                    go_wp2_with (at_builtin; refine own_app3 HQ.out.1.1 HQ.out.1.2.size HI.out (by have := HQ.out.2.1; omega) rfl _ _ rfl rfl rfl ?_; intro A8 c8 w8 hown hg8; have HK8 := Lib.hid (HQ.out.1.app hown hg8); clear hown hg8)
                    go_meet
                    case rel => exact ⟨_, _, _, rfl, KC.yes HK8.out HQ.out.2.1 HQ.out.2.2 HB12.out⟩
                case rest =>
                  clear hc HBW HK HC12 HB12
                  obtain ⟨A1, n1, c1, rfl, HK⟩ := hcut
                  obtain ⟨L0, hk, hn, hJ, hpm⟩ := HK.out
                  subst hn
                  have HQ := Lib.hid (And.intro hk (And.intro hJ (hpm.trans ((List.reverse_perm ((fldK 1).map (·.1))).filter _))))
                  clear HK hk hJ hpm
                  have hcm : wc.cell? ⟨g, 13, none⟩ = some (.map m) := Blk.at_ HB.out HQ.out.1.2 HLT.out HM.out
                  rcases HP.out.prv with ⟨rfl, h0⟩ | ⟨mm, E, rfl, _, h3, h4, _⟩
                  · have hrng := run_range_nilMap (P := Tryz.prog) wc 169 _ _ Tryz.underlying169
                    have hnx := fun ty => run_next_nilMap (P := Tryz.prog) wc ty 0 0 #[]
                    have H0 := Lib.hid h0
                    clear h0
                    go_wp2_with fail
                    refine wp_loop_rounds 1 ?_
                    rw [rounds_succ]
                    go_wp2
                    go_ret
                    exact ⟨_, _, _, _, rfl, HQ.out.1.1.alloc _, (by have h := keys_end HP.out.nd HQ.out.2.2 (Ns := []) (by rw [H0.out]; exact List.Perm.nil); rw [List.append_nil] at h; exact h), below_alloc' HQ.out.1.2 _⟩
                  · obtain ⟨w4, hrng, hR4, hg4, _⟩ := run_range (P := Tryz.prog) Tryz.underlying169 wc mm _ (h3.below HQ.out.1.2 h3.lt)
                    have hnd : ((E.map fun t => (t.1, t.2.1)).map (·.1)) = (priv 1 S).map (·.1) := by rw [← h4, List.map_map, List.map_map]; rfl
                    have HND := Lib.hid hnd
                    obtain ⟨L, hL⟩ : ∃ L, L = E.map fun t => (t.1, t.2.1) := ⟨_, rfl⟩
                    rw [← hL] at hR4 HND
                    have HNN : Hid ((L.map (·.1)).Nodup) := Lib.hid (by rw [HND.out]; exact (List.filter_sublist.map _).nodup HP.out.nd)
                    have HLL : Hid (L.length ≤ 100000) := Lib.hid (by have e := congrArg List.length HND.out; rw [List.length_map, List.length_map] at e; rw [e]; exact Nat.le_trans (List.length_filter_le _ _) HS.out)
                    have HR := Lib.hid (KRng.start HQ.out.1 hR4 hg4 HQ.out.1.2.size)
                    have HQ2 := Lib.hid HQ.out.2
                    clear h3 h4 hnd hL hR4 hg4 HQ
                    go_wp2_with fail
                    go_loopg [3, 4] (togo L []) (fun q v3 v4 wr => ∃ ds A n c, q = togo L ds ∧ v3 = .slice A n c ∧ Hid (KRng w wr mm wc.heap.size L L0 ds (.slice A n c) ∧ n = (L0 ++ ds.map (·.1)).length))
                    case atStart => exact ⟨[], _, _, _, rfl, rfl, HR.out, by simp⟩
                    case round =>
                      clear HR
                      obtain ⟨ds, A, n, c, hk, rfl, HR⟩ := hrel
                      have HKK := Lib.hid hk
                      clear hk
                      rcases HR.out.1.rg.next (P := Tryz.prog) 0 HNN.out with ⟨hall, hrun⟩ | ⟨q, hq, hf, w5, hrun, hR5, hg5, hent⟩
                      · have HA := Lib.hid hall
                        clear hall
                        go_wp2
                        go_ret
                        have hsub := HR.out.1.rg.sub
                        have hpm := (all_perm HNN.out hsub.2 hsub.1 HA.out).map (·.1)
                        have ho := HR.out.1.kr.1
                        rw [← HR.out.2] at ho
                        exact ⟨_, _, _, _, rfl, ho, keys_end HP.out.nd HQ2.out.2 (hpm.trans (by rw [HND.out])), HR.out.1.kr.2⟩
                      · have HH := Lib.hid (And.intro hq (And.intro hf (And.intro hR5 hg5)))
                        have HN : Hid (n < 1000000) := Lib.hid (by
                          have h1 := HR.out.2
                          have h2 := HQ2.out.1
                          have hsub := HR.out.1.rg.sub
                          have h3 : ds.length ≤ L.length := nodup_len hsub.2 hsub.1
                          have h4 := HLL.out
                          rw [List.length_append, List.length_map] at h1
                          omega)
                        have HO5 := Lib.hid (HR.out.1.own5 hg5)
                        clear hq hf hR5 hg5
                        go_wp2_with (at_builtin; refine own_app3 (by have h := HO5.out.1; rwa [← HR.out.2] at h) HO5.out.2 HI.out HN.out rfl _ _ rfl rfl rfl ?_; intro A8 c8 w8 hown hg8; have HK8 := Lib.hid (HR.out.1.step HH.out.2.2.1 HH.out.2.2.2 hown hg8 HR.out.2); clear hown hg8)
                        go_roundg (togo L (ds ++ [q]))
                        case measure => rw [HKK.out]; exact togo_less HH.out.1 HH.out.2.1
                        case rel => exact ⟨ds ++ [q], _, _, _, rfl, rfl, HK8.out, by have := HR.out.2; simp at this ⊢; omega⟩
end Go.Proofs.YtapjbdigpleekaaGreat.Mp

/- Keys of another kind of maps; the conditions are on what lies in memory. Printed by gen_mpkeys.py. -/
set_option linter.unusedVariables false
set_option linter.unusedSimpArgs false
namespace Go.Proofs.YtapjbdigpleekaaGreat.Mp
open Go.RowKit Go.Proofs.YtapjbdigpleekaaGreat.K Go.Proofs.YtapjbdigpleekaaGreat.Cl
set_option maxRecDepth 100000 in
set_option maxHeartbeats 8000000 in
theorem oid_Keys {w : World} {B g : Nat} {S : List (ByteArray × PV)} (h : Hd 3 w B g S) (hS : S.length ≤ 100000) :
    Calls Tryz.prog 237 #[.pointer (some ⟨g, 0, none⟩)] w (KeysP w (S.map (·.1))) := by
  obtain ⟨cs, m, hp⟩ := h
  have HP := Lib.hid hp
  obtain ⟨i0, hi4⟩ := info_str4
  have HI := Lib.hid hi4
  have HB := Lib.hid hp.blk
  have HLT := Lib.hid hp.blk.lt
  have hm := hp.map_
  have HM := Lib.hid hm
  have hcm : w.cell? ⟨g, 21, none⟩ = some (.map m) := by rw [hp.blk.cell]; exact hm
  clear hm hi4
  obtain ⟨p0, n0, c0, hc0, hb0⟩ := hp.sli (List.mem_of_getElem? (show (fldK 3)[0]? = some (⟨#[97, 117, 100]⟩, 1, 2) from rfl)) rfl
  have HC0 : Hid (cs[1]? = some (.slice p0 n0 c0)) := Lib.hid hc0
  have HB0 : Hid (p0.isSome = (lookG S ⟨#[97, 117, 100]⟩).isSome) := Lib.hid hb0
  clear hc0 hb0
  obtain ⟨p1, hc1, hb1⟩ := hp.ptr (List.mem_of_getElem? (show (fldK 3)[1]? = some (⟨#[101, 109, 97, 105, 108]⟩, 2, 0) from rfl)) (by decide)
  have HC1 : Hid (cs[2]? = some (.pointer p1)) := Lib.hid hc1
  have HB1 : Hid (p1.isSome = (lookG S ⟨#[101, 109, 97, 105, 108]⟩).isSome) := Lib.hid hb1
  clear hc1 hb1
  obtain ⟨p2, hc2, hb2⟩ := hp.ptr (List.mem_of_getElem? (show (fldK 3)[2]? = some (⟨#[101, 109, 97, 105, 108, 95, 118, 101, 114, 105, 102, 105, 101, 100]⟩, 3, 1) from rfl)) (by decide)
  have HC2 : Hid (cs[3]? = some (.pointer p2)) := Lib.hid hc2
  have HB2 : Hid (p2.isSome = (lookG S ⟨#[101, 109, 97, 105, 108, 95, 118, 101, 114, 105, 102, 105, 101, 100]⟩).isSome) := Lib.hid hb2
  clear hc2 hb2
  obtain ⟨p3, hc3, hb3⟩ := hp.ptr (List.mem_of_getElem? (show (fldK 3)[3]? = some (⟨#[102, 97, 109, 105, 108, 121, 95, 110, 97, 109, 101]⟩, 4, 0) from rfl)) (by decide)
  have HC3 : Hid (cs[4]? = some (.pointer p3)) := Lib.hid hc3
  have HB3 : Hid (p3.isSome = (lookG S ⟨#[102, 97, 109, 105, 108, 121, 95, 110, 97, 109, 101]⟩).isSome) := Lib.hid hb3
  clear hc3 hb3
  obtain ⟨p4, hc4, hb4⟩ := hp.ptr (List.mem_of_getElem? (show (fldK 3)[4]? = some (⟨#[103, 101, 110, 100, 101, 114]⟩, 5, 0) from rfl)) (by decide)
  have HC4 : Hid (cs[5]? = some (.pointer p4)) := Lib.hid hc4
  have HB4 : Hid (p4.isSome = (lookG S ⟨#[103, 101, 110, 100, 101, 114]⟩).isSome) := Lib.hid hb4
  clear hc4 hb4
  obtain ⟨p5, hc5, hb5⟩ := hp.ptr (List.mem_of_getElem? (show (fldK 3)[5]? = some (⟨#[103, 105, 118, 101, 110, 95, 110, 97, 109, 101]⟩, 6, 0) from rfl)) (by decide)
  have HC5 : Hid (cs[6]? = some (.pointer p5)) := Lib.hid hc5
  have HB5 : Hid (p5.isSome = (lookG S ⟨#[103, 105, 118, 101, 110, 95, 110, 97, 109, 101]⟩).isSome) := Lib.hid hb5
  clear hc5 hb5
  obtain ⟨p6, hc6, hb6⟩ := hp.ptr (List.mem_of_getElem? (show (fldK 3)[6]? = some (⟨#[105, 115, 115]⟩, 7, 0) from rfl)) (by decide)
  have HC6 : Hid (cs[7]? = some (.pointer p6)) := Lib.hid hc6
  have HB6 : Hid (p6.isSome = (lookG S ⟨#[105, 115, 115]⟩).isSome) := Lib.hid hb6
  clear hc6 hb6
  obtain ⟨p7, hc7, hb7⟩ := hp.ptr (List.mem_of_getElem? (show (fldK 3)[7]? = some (⟨#[106, 116, 105]⟩, 8, 0) from rfl)) (by decide)
  have HC7 : Hid (cs[8]? = some (.pointer p7)) := Lib.hid hc7
  have HB7 : Hid (p7.isSome = (lookG S ⟨#[106, 116, 105]⟩).isSome) := Lib.hid hb7
  clear hc7 hb7
  obtain ⟨p8, hc8, hb8⟩ := hp.ptr (List.mem_of_getElem? (show (fldK 3)[8]? = some (⟨#[108, 111, 99, 97, 108, 101]⟩, 9, 0) from rfl)) (by decide)
  have HC8 : Hid (cs[9]? = some (.pointer p8)) := Lib.hid hc8
  have HB8 : Hid (p8.isSome = (lookG S ⟨#[108, 111, 99, 97, 108, 101]⟩).isSome) := Lib.hid hb8
  clear hc8 hb8
  obtain ⟨p9, hc9, hb9⟩ := hp.ptr (List.mem_of_getElem? (show (fldK 3)[9]? = some (⟨#[109, 105, 100, 100, 108, 101, 95, 110, 97, 109, 101]⟩, 10, 0) from rfl)) (by decide)
  have HC9 : Hid (cs[10]? = some (.pointer p9)) := Lib.hid hc9
  have HB9 : Hid (p9.isSome = (lookG S ⟨#[109, 105, 100, 100, 108, 101, 95, 110, 97, 109, 101]⟩).isSome) := Lib.hid hb9
  clear hc9 hb9
  obtain ⟨p10, hc10, hb10⟩ := hp.ptr (List.mem_of_getElem? (show (fldK 3)[10]? = some (⟨#[110, 97, 109, 101]⟩, 11, 0) from rfl)) (by decide)
  have HC10 : Hid (cs[11]? = some (.pointer p10)) := Lib.hid hc10
  have HB10 : Hid (p10.isSome = (lookG S ⟨#[110, 97, 109, 101]⟩).isSome) := Lib.hid hb10
  clear hc10 hb10
  obtain ⟨p11, hc11, hb11⟩ := hp.ptr (List.mem_of_getElem? (show (fldK 3)[11]? = some (⟨#[110, 105, 99, 107, 110, 97, 109, 101]⟩, 12, 0) from rfl)) (by decide)
  have HC11 : Hid (cs[12]? = some (.pointer p11)) := Lib.hid hc11
  have HB11 : Hid (p11.isSome = (lookG S ⟨#[110, 105, 99, 107, 110, 97, 109, 101]⟩).isSome) := Lib.hid hb11
  clear hc11 hb11
  obtain ⟨p12, hc12, hb12⟩ := hp.ptr (List.mem_of_getElem? (show (fldK 3)[12]? = some (⟨#[112, 104, 111, 110, 101, 95, 110, 117, 109, 98, 101, 114]⟩, 13, 0) from rfl)) (by decide)
  have HC12 : Hid (cs[13]? = some (.pointer p12)) := Lib.hid hc12
  have HB12 : Hid (p12.isSome = (lookG S ⟨#[112, 104, 111, 110, 101, 95, 110, 117, 109, 98, 101, 114]⟩).isSome) := Lib.hid hb12
  clear hc12 hb12
  obtain ⟨p13, hc13, hb13⟩ := hp.ptr (List.mem_of_getElem? (show (fldK 3)[13]? = some (⟨#[112, 104, 111, 110, 101, 95, 110, 117, 109, 98, 101, 114, 95, 118, 101, 114, 105, 102, 105, 101, 100]⟩, 14, 1) from rfl)) (by decide)
  have HC13 : Hid (cs[14]? = some (.pointer p13)) := Lib.hid hc13
  have HB13 : Hid (p13.isSome = (lookG S ⟨#[112, 104, 111, 110, 101, 95, 110, 117, 109, 98, 101, 114, 95, 118, 101, 114, 105, 102, 105, 101, 100]⟩).isSome) := Lib.hid hb13
  clear hc13 hb13
  obtain ⟨p14, hc14, hb14⟩ := hp.ptr (List.mem_of_getElem? (show (fldK 3)[14]? = some (⟨#[112, 105, 99, 116, 117, 114, 101]⟩, 15, 0) from rfl)) (by decide)
  have HC14 : Hid (cs[15]? = some (.pointer p14)) := Lib.hid hc14
  have HB14 : Hid (p14.isSome = (lookG S ⟨#[112, 105, 99, 116, 117, 114, 101]⟩).isSome) := Lib.hid hb14
  clear hc14 hb14
  obtain ⟨p15, hc15, hb15⟩ := hp.ptr (List.mem_of_getElem? (show (fldK 3)[15]? = some (⟨#[112, 114, 101, 102, 101, 114, 114, 101, 100, 95, 117, 115, 101, 114, 110, 97, 109, 101]⟩, 16, 0) from rfl)) (by decide)
  have HC15 : Hid (cs[16]? = some (.pointer p15)) := Lib.hid hc15
  have HB15 : Hid (p15.isSome = (lookG S ⟨#[112, 114, 101, 102, 101, 114, 114, 101, 100, 95, 117, 115, 101, 114, 110, 97, 109, 101]⟩).isSome) := Lib.hid hb15
  clear hc15 hb15
  obtain ⟨p16, hc16, hb16⟩ := hp.ptr (List.mem_of_getElem? (show (fldK 3)[16]? = some (⟨#[112, 114, 111, 102, 105, 108, 101]⟩, 17, 0) from rfl)) (by decide)
  have HC16 : Hid (cs[17]? = some (.pointer p16)) := Lib.hid hc16
  have HB16 : Hid (p16.isSome = (lookG S ⟨#[112, 114, 111, 102, 105, 108, 101]⟩).isSome) := Lib.hid hb16
  clear hc16 hb16
  obtain ⟨p17, hc17, hb17⟩ := hp.ptr (List.mem_of_getElem? (show (fldK 3)[17]? = some (⟨#[115, 117, 98]⟩, 18, 0) from rfl)) (by decide)
  have HC17 : Hid (cs[18]? = some (.pointer p17)) := Lib.hid hc17
  have HB17 : Hid (p17.isSome = (lookG S ⟨#[115, 117, 98]⟩).isSome) := Lib.hid hb17
  clear hc17 hb17
  obtain ⟨p18, hc18, hb18⟩ := hp.ptr (List.mem_of_getElem? (show (fldK 3)[18]? = some (⟨#[119, 101, 98, 115, 105, 116, 101]⟩, 19, 0) from rfl)) (by decide)
  have HC18 : Hid (cs[19]? = some (.pointer p18)) := Lib.hid hc18
  have HB18 : Hid (p18.isSome = (lookG S ⟨#[119, 101, 98, 115, 105, 116, 101]⟩).isSome) := Lib.hid hb18
  clear hc18 hb18
  obtain ⟨p19, hc19, hb19⟩ := hp.ptr (List.mem_of_getElem? (show (fldK 3)[19]? = some (⟨#[122, 111, 110, 101, 105, 110, 102, 111]⟩, 20, 0) from rfl)) (by decide)
  have HC19 : Hid (cs[20]? = some (.pointer p19)) := Lib.hid hc19
  have HB19 : Hid (p19.isSome = (lookG S ⟨#[122, 111, 110, 101, 105, 110, 102, 111]⟩).isSome) := Lib.hid hb19
  clear hc19 hb19
  obtain ⟨N, hlen, hNl⟩ : ∃ N : Nat, (∀ ty, (Builtin.len_ #[169] ty #[.map m]).run Tryz.prog w = .ok (goInt N) w) ∧ N ≤ 100000 := by
    rcases hp.prv with ⟨rfl, _⟩ | ⟨mm, E, rfl, _, h3, h4, _⟩
    · exact ⟨0, fun ty => run_len_nilMap w _ _ (by kernel_rfl), by omega⟩
    · refine ⟨_, fun ty => len_map h3 ty, ?_⟩
      have e : E.length = (priv 3 S).length := by rw [← h4, List.length_map]
      rw [List.length_map, e]
      exact Nat.le_trans (List.length_filter_le _ _) hS
  have hwr : IntKind.i64.wrap ((26 : Int) + (N : Int)) = ((26 + N : Nat) : Int) := by rw [wrap_small _ (by omega) (by omega)]; omega
  have HWR := Lib.hid hNl
  have HS := Lib.hid hS
  clear hp hNl hS
  go_enter Tryz.func237, Tryz.ntmps237
  go_upto_region 2 with (at_make; refine wpList_make_own _ rfl _ _ 23 rfl w.heap.size 9 i0 (.string ByteArray.empty) 1 Tryz.underlying23 HI.out.1 HI.out.2.1 HI.out.2.2.1 .i64 .i64 _ (26 + N) rfl rfl (by first | rfl | exact hwr) (by rw [HI.out.2.2.2]; have := HWR.out; omega) (by unfold maxLen; have := HWR.out; omega) (Nat.le_refl _) ?_; intro wc hown hg0; have HK : Hid (KC w wc S (.slice (some ⟨w.heap.size, 0, none⟩) 0 (26 + N)) 0 0 []) := Lib.hid ⟨[], ⟨hown, (Below.refl w.heap.size w).grown hg0 (Nat.le_refl _) (by intro j hj; cases hj)⟩, rfl, Nat.le_refl _, List.Perm.nil⟩; clear hown hg0)
  clear hlen hwr hcm
  have HBW : Hid (Below w.heap.size w wc) := Lib.hid (by obtain ⟨L, hk, _⟩ := HK.out; exact hk.2)
  have hc : wc.cell? ⟨g, 1, none⟩ = some (.slice p0 n0 c0) := Blk.at_ HB.out HBW.out HLT.out HC0.out
  have hnil := fun W : World => Go.run_neq_slice_nil (P := Tryz.prog) W 203 9 p0 n0 c0 Tryz.underlying203
  go_upto_if 16 with (fail)
  go_cut [3] from 12 to 19 (fun v wx => ∃ A n c, v = .slice A n c ∧ Hid (KC w wx S (.slice A n c) n 1 (⟨#[97, 117, 100]⟩ :: [])))
  case first =>
    cases p0 with
    | none =>
      go_wp2_with fail
      go_meet
      case rel => exact ⟨_, _, _, rfl, HK.out.no HB0.out⟩
    | some q =>
      obtain ⟨L, hk, hn, hJ, hpm⟩ := HK.out
      have hL0 : L = [] := List.eq_nil_of_length_eq_zero hn.symm
      subst hL0
      have HQ := Lib.hid (And.intro hk (And.intro hJ hpm))
      clear HK hk hJ hpm hn
      go_wp2_with (at_builtin; refine own_app3 HQ.out.1.1 HQ.out.1.2.size HI.out (by show 0 < 1000000; omega) rfl _ _ rfl rfl rfl ?_; intro A8 c8 w8 hown hg8; have HK8 := Lib.hid (HQ.out.1.app hown hg8); clear hown hg8)
      go_meet
      case rel => exact ⟨_, _, _, rfl, KC.yes HK8.out HQ.out.2.1 HQ.out.2.2 HB0.out⟩
  case rest =>
    clear hc HBW HK hnil HC0 HB0
    obtain ⟨A1, n1, c1, rfl, HK⟩ := hcut
    have HBW : Hid (Below w.heap.size w wc) := Lib.hid (by obtain ⟨L, hk, _⟩ := HK.out; exact hk.2)
    have hc : wc.cell? ⟨g, 2, none⟩ = some (.pointer p1) := Blk.at_ HB.out HBW.out HLT.out HC1.out
    go_upto_if 24 with (fail)
    go_cut [3] from 20 to 27 (fun v wx => ∃ A n c, v = .slice A n c ∧ Hid (KC w wx S (.slice A n c) n 2 (⟨#[101, 109, 97, 105, 108]⟩ :: ⟨#[97, 117, 100]⟩ :: [])))
    case first =>
      cases p1 with
      | none =>
        go_wp2_with fail
        go_meet
        case rel => exact ⟨_, _, _, rfl, HK.out.no HB1.out⟩
      | some q =>
        obtain ⟨L, hk, hn, hJ, hpm⟩ := HK.out
        subst hn
        have HQ := Lib.hid (And.intro hk (And.intro hJ hpm))
        clear HK hk hJ hpm
        go_wp2_with (at_builtin; refine own_app3 HQ.out.1.1 HQ.out.1.2.size HI.out (by have := HQ.out.2.1; omega) rfl _ _ rfl rfl rfl ?_; intro A8 c8 w8 hown hg8; have HK8 := Lib.hid (HQ.out.1.app hown hg8); clear hown hg8)
        go_meet
        case rel => exact ⟨_, _, _, rfl, KC.yes HK8.out HQ.out.2.1 HQ.out.2.2 HB1.out⟩
    case rest =>
      clear hc HBW HK HC1 HB1
      obtain ⟨A1, n1, c1, rfl, HK⟩ := hcut
      have HBW : Hid (Below w.heap.size w wc) := Lib.hid (by obtain ⟨L, hk, _⟩ := HK.out; exact hk.2)
      have hc : wc.cell? ⟨g, 3, none⟩ = some (.pointer p2) := Blk.at_ HB.out HBW.out HLT.out HC2.out
      go_upto_if 32 with (fail)
      go_cut [3] from 28 to 35 (fun v wx => ∃ A n c, v = .slice A n c ∧ Hid (KC w wx S (.slice A n c) n 3 (⟨#[101, 109, 97, 105, 108, 95, 118, 101, 114, 105, 102, 105, 101, 100]⟩ :: ⟨#[101, 109, 97, 105, 108]⟩ :: ⟨#[97, 117, 100]⟩ :: [])))
      case first =>
        cases p2 with
        | none =>
          go_wp2_with fail
          go_meet
          case rel => exact ⟨_, _, _, rfl, HK.out.no HB2.out⟩
        | some q =>
          obtain ⟨L, hk, hn, hJ, hpm⟩ := HK.out
          subst hn
          have HQ := Lib.hid (And.intro hk (And.intro hJ hpm))
          clear HK hk hJ hpm
          go_wp2_with (at_builtin; refine own_app3 HQ.out.1.1 HQ.out.1.2.size HI.out (by have := HQ.out.2.1; omega) rfl _ _ rfl rfl rfl ?_; intro A8 c8 w8 hown hg8; have HK8 := Lib.hid (HQ.out.1.app hown hg8); clear hown hg8)
          go_meet
          case rel => exact ⟨_, _, _, rfl, KC.yes HK8.out HQ.out.2.1 HQ.out.2.2 HB2.out⟩
      case rest =>
        clear hc HBW HK HC2 HB2
        obtain ⟨A1, n1, c1, rfl, HK⟩ := hcut
        have HBW : Hid (Below w.heap.size w wc) := Lib.hid (by obtain ⟨L, hk, _⟩ := HK.out; exact hk.2)
        have hc : wc.cell? ⟨g, 4, none⟩ = some (.pointer p3) := Blk.at_ HB.out HBW.out HLT.out HC3.out
        go_upto_if 40 with (fail)
        go_cut [3] from 36 to 43 (fun v wx => ∃ A n c, v = .slice A n c ∧ Hid (KC w wx S (.slice A n c) n 4 (⟨#[102, 97, 109, 105, 108, 121, 95, 110, 97, 109, 101]⟩ :: ⟨#[101, 109, 97, 105, 108, 95, 118, 101, 114, 105, 102, 105, 101, 100]⟩ :: ⟨#[101, 109, 97, 105, 108]⟩ :: ⟨#[97, 117, 100]⟩ :: [])))
        case first =>
          cases p3 with
          | none =>
            go_wp2_with fail
            go_meet
            case rel => exact ⟨_, _, _, rfl, HK.out.no HB3.out⟩
          | some q =>
            obtain ⟨L, hk, hn, hJ, hpm⟩ := HK.out
            subst hn
            have HQ := Lib.hid (And.intro hk (And.intro hJ hpm))
            clear HK hk hJ hpm
            go_wp2_with (at_builtin; refine own_app3 HQ.out.1.1 HQ.out.1.2.size HI.out (by have := HQ.out.2.1; omega) rfl _ _ rfl rfl rfl ?_; intro A8 c8 w8 hown hg8; have HK8 := Lib.hid (HQ.out.1.app hown hg8); clear hown hg8)
            go_meet
            case rel => exact ⟨_, _, _, rfl, KC.yes HK8.out HQ.out.2.1 HQ.out.2.2 HB3.out⟩
        case rest =>
          clear hc HBW HK HC3 HB3
          obtain ⟨A1, n1, c1, rfl, HK⟩ := hcut
          have HBW : Hid (Below w.heap.size w wc) := Lib.hid (by obtain ⟨L, hk, _⟩ := HK.out; exact hk.2)
          have hc : wc.cell? ⟨g, 5, none⟩ = some (.pointer p4) := Blk.at_ HB.out HBW.out HLT.out HC4.out
          go_upto_if 48 with (fail)
          go_cut [3] from 44 to 51 (fun v wx => ∃ A n c, v = .slice A n c ∧ Hid (KC w wx S (.slice A n c) n 5 (⟨#[103, 101, 110, 100, 101, 114]⟩ :: ⟨#[102, 97, 109, 105, 108, 121, 95, 110, 97, 109, 101]⟩ :: ⟨#[101, 109, 97, 105, 108, 95, 118, 101, 114, 105, 102, 105, 101, 100]⟩ :: ⟨#[101, 109, 97, 105, 108]⟩ :: ⟨#[97, 117, 100]⟩ :: [])))
          case first =>
            cases p4 with
            | none =>
              go_wp2_with fail
              go_meet
              case rel => exact ⟨_, _, _, rfl, HK.out.no HB4.out⟩
            | some q =>
              obtain ⟨L, hk, hn, hJ, hpm⟩ := HK.out
              subst hn
              have HQ := Lib.hid (And.intro hk (And.intro hJ hpm))
              clear HK hk hJ hpm
              go_wp2_with (at_builtin; refine own_app3 HQ.out.1.1 HQ.out.1.2.size HI.out (by have := HQ.out.2.1; omega) rfl _ _ rfl rfl rfl ?_; intro A8 c8 w8 hown hg8; have HK8 := Lib.hid (HQ.out.1.app hown hg8); clear hown hg8)
              go_meet
              case rel => exact ⟨_, _, _, rfl, KC.yes HK8.out HQ.out.2.1 HQ.out.2.2 HB4.out⟩
          case rest =>
            clear hc HBW HK HC4 HB4
            obtain ⟨A1, n1, c1, rfl, HK⟩ := hcut
            have HBW : Hid (Below w.heap.size w wc) := Lib.hid (by obtain ⟨L, hk, _⟩ := HK.out; exact hk.2)
            have hc : wc.cell? ⟨g, 6, none⟩ = some (.pointer p5) := Blk.at_ HB.out HBW.out HLT.out HC5.out
            go_upto_if 56 with (fail)
            go_cut [3] from 52 to 59 (fun v wx => ∃ A n c, v = .slice A n c ∧ Hid (KC w wx S (.slice A n c) n 6 (⟨#[103, 105, 118, 101, 110, 95, 110, 97, 109, 101]⟩ :: ⟨#[103, 101, 110, 100, 101, 114]⟩ :: ⟨#[102, 97, 109, 105, 108, 121, 95, 110, 97, 109, 101]⟩ :: ⟨#[101, 109, 97, 105, 108, 95, 118, 101, 114, 105, 102, 105, 101, 100]⟩ :: ⟨#[101, 109, 97, 105, 108]⟩ :: ⟨#[97, 117, 100]⟩ :: [])))
            case first =>
              cases p5 with
              | none =>
                go_wp2_with fail
                go_meet
                case rel => exact ⟨_, _, _, rfl, HK.out.no HB5.out⟩
              | some q =>
                obtain ⟨L, hk, hn, hJ, hpm⟩ := HK.out
                subst hn
                have HQ := Lib.hid (And.intro hk (And.intro hJ hpm))
                clear HK hk hJ hpm
                go_wp2_with (at_builtin; refine own_app3 HQ.out.1.1 HQ.out.1.2.size HI.out (by have := HQ.out.2.1; omega) rfl _ _ rfl rfl rfl ?_; intro A8 c8 w8 hown hg8; have HK8 := Lib.hid (HQ.out.1.app hown hg8); clear hown hg8)
                go_meet
                case rel => exact ⟨_, _, _, rfl, KC.yes HK8.out HQ.out.2.1 HQ.out.2.2 HB5.out⟩
            case rest =>
              clear hc HBW HK HC5 HB5
              obtain ⟨A1, n1, c1, rfl, HK⟩ := hcut
              have HBW : Hid (Below w.heap.size w wc) := Lib.hid (by obtain ⟨L, hk, _⟩ := HK.out; exact hk.2)
              have hc : wc.cell? ⟨g, 7, none⟩ = some (.pointer p6) := Blk.at_ HB.out HBW.out HLT.out HC6.out
              go_upto_if 64 with (fail)
              go_cut [3] from 60 to 67 (fun v wx => ∃ A n c, v = .slice A n c ∧ Hid (KC w wx S (.slice A n c) n 7 (⟨#[105, 115, 115]⟩ :: ⟨#[103, 105, 118, 101, 110, 95, 110, 97, 109, 101]⟩ :: ⟨#[103, 101, 110, 100, 101, 114]⟩ :: ⟨#[102, 97, 109, 105, 108, 121, 95, 110, 97, 109, 101]⟩ :: ⟨#[101, 109, 97, 105, 108, 95, 118, 101, 114, 105, 102, 105, 101, 100]⟩ :: ⟨#[101, 109, 97, 105, 108]⟩ :: ⟨#[97, 117, 100]⟩ :: [])))
              case first =>
                cases p6 with
                | none =>
                  go_wp2_with fail
                  go_meet
                  case rel => exact ⟨_, _, _, rfl, HK.out.no HB6.out⟩
                | some q =>
                  obtain ⟨L, hk, hn, hJ, hpm⟩ := HK.out
                  subst hn
                  have HQ := Lib.hid (And.intro hk (And.intro hJ hpm))
                  clear HK hk hJ hpm
                  go_wp2_with (at_builtin; refine own_app3 HQ.out.1.1 HQ.out.1.2.size HI.out (by have := HQ.out.2.1; omega) rfl _ _ rfl rfl rfl ?_; intro A8 c8 w8 hown hg8; have HK8 := Lib.hid (HQ.out.1.app hown hg8); clear hown hg8)
                  go_meet
                  case rel => exact ⟨_, _, _, rfl, KC.yes HK8.out HQ.out.2.1 HQ.out.2.2 HB6.out⟩
              case rest =>
                clear hc HBW HK HC6 HB6
                obtain ⟨A1, n1, c1, rfl, HK⟩ := hcut
                have HBW : Hid (Below w.heap.size w wc) := Lib.hid (by obtain ⟨L, hk, _⟩ := HK.out; exact hk.2)
                have hc : wc.cell? ⟨g, 8, none⟩ = some (.pointer p7) := Blk.at_ HB.out HBW.out HLT.out HC7.out
                go_upto_if 72 with (fail)
                go_cut [3] from 68 to 75 (fun v wx => ∃ A n c, v = .slice A n c ∧ Hid (KC w wx S (.slice A n c) n 8 (⟨#[106, 116, 105]⟩ :: ⟨#[105, 115, 115]⟩ :: ⟨#[103, 105, 118, 101, 110, 95, 110, 97, 109, 101]⟩ :: ⟨#[103, 101, 110, 100, 101, 114]⟩ :: ⟨#[102, 97, 109, 105, 108, 121, 95, 110, 97, 109, 101]⟩ :: ⟨#[101, 109, 97, 105, 108, 95, 118, 101, 114, 105, 102, 105, 101, 100]⟩ :: ⟨#[101, 109, 97, 105, 108]⟩ :: ⟨#[97, 117, 100]⟩ :: [])))
                case first =>
                  cases p7 with
                  | none =>
                    go_wp2_with fail
                    go_meet
                    case rel => exact ⟨_, _, _, rfl, HK.out.no HB7.out⟩
                  | some q =>
                    obtain ⟨L, hk, hn, hJ, hpm⟩ := HK.out
                    subst hn
                    have HQ := Lib.hid (And.intro hk (And.intro hJ hpm))
                    clear HK hk hJ hpm
                    go_wp2_with (at_builtin; refine own_app3 HQ.out.1.1 HQ.out.1.2.size HI.out (by have := HQ.out.2.1; omega) rfl _ _ rfl rfl rfl ?_; intro A8 c8 w8 hown hg8; have HK8 := Lib.hid (HQ.out.1.app hown hg8); clear hown hg8)
                    go_meet
                    case rel => exact ⟨_, _, _, rfl, KC.yes HK8.out HQ.out.2.1 HQ.out.2.2 HB7.out⟩
                case rest =>
                  clear hc HBW HK HC7 HB7
                  obtain ⟨A1, n1, c1, rfl, HK⟩ := hcut
                  have HBW : Hid (Below w.heap.size w wc) := Lib.hid (by obtain ⟨L, hk, _⟩ := HK.out; exact hk.2)
                  have hc : wc.cell? ⟨g, 9, none⟩ = some (.pointer p8) := Blk.at_ HB.out HBW.out HLT.out HC8.out
                  go_upto_if 80 with (fail)
                  go_cut [3] from 76 to 83 (fun v wx => ∃ A n c, v = .slice A n c ∧ Hid (KC w wx S (.slice A n c) n 9 (⟨#[108, 111, 99, 97, 108, 101]⟩ :: ⟨#[106, 116, 105]⟩ :: ⟨#[105, 115, 115]⟩ :: ⟨#[103, 105, 118, 101, 110, 95, 110, 97, 109, 101]⟩ :: ⟨#[103, 101, 110, 100, 101, 114]⟩ :: ⟨#[102, 97, 109, 105, 108, 121, 95, 110, 97, 109, 101]⟩ :: ⟨#[101, 109, 97, 105, 108, 95, 118, 101, 114, 105, 102, 105, 101, 100]⟩ :: ⟨#[101, 109, 97, 105, 108]⟩ :: ⟨#[97, 117, 100]⟩ :: [])))
                  case first =>
                    cases p8 with
                    | none =>
                      go_wp2_with fail
                      go_meet
                      case rel => exact ⟨_, _, _, rfl, HK.out.no HB8.out⟩
                    | some q =>
                      obtain ⟨L, hk, hn, hJ, hpm⟩ := HK.out
                      subst hn
                      have HQ := Lib.hid (And.intro hk (And.intro hJ hpm))
                      clear HK hk hJ hpm
                      go_wp2_with (at_builtin; refine own_app3 HQ.out.1.1 HQ.out.1.2.size HI.out (by have := HQ.out.2.1; omega) rfl _ _ rfl rfl rfl ?_; intro A8 c8 w8 hown hg8; have HK8 := Lib.hid (HQ.out.1.app hown hg8); clear hown hg8)
                      go_meet
                      case rel => exact ⟨_, _, _, rfl, KC.yes HK8.out HQ.out.2.1 HQ.out.2.2 HB8.out⟩
                  case rest =>
                    clear hc HBW HK HC8 HB8
                    obtain ⟨A1, n1, c1, rfl, HK⟩ := hcut
                    have HBW : Hid (Below w.heap.size w wc) := Lib.hid (by obtain ⟨L, hk, _⟩ := HK.out; exact hk.2)
                    have hc : wc.cell? ⟨g, 10, none⟩ = some (.pointer p9) := Blk.at_ HB.out HBW.out HLT.out HC9.out
                    go_upto_if 88 with (fail)
                    go_cut [3] from 84 to 91 (fun v wx => ∃ A n c, v = .slice A n c ∧ Hid (KC w wx S (.slice A n c) n 10 (⟨#[109, 105, 100, 100, 108, 101, 95, 110, 97, 109, 101]⟩ :: ⟨#[108, 111, 99, 97, 108, 101]⟩ :: ⟨#[106, 116, 105]⟩ :: ⟨#[105, 115, 115]⟩ :: ⟨#[103, 105, 118, 101, 110, 95, 110, 97, 109, 101]⟩ :: ⟨#[103, 101, 110, 100, 101, 114]⟩ :: ⟨#[102, 97, 109, 105, 108, 121, 95, 110, 97, 109, 101]⟩ :: ⟨#[101, 109, 97, 105, 108, 95, 118, 101, 114, 105, 102, 105, 101, 100]⟩ :: ⟨#[101, 109, 97, 105, 108]⟩ :: ⟨#[97, 117, 100]⟩ :: [])))
                    case first =>
                      cases p9 with
                      | none =>
                        go_wp2_with fail
                        go_meet
                        case rel => exact ⟨_, _, _, rfl, HK.out.no HB9.out⟩
                      | some q =>
                        obtain ⟨L, hk, hn, hJ, hpm⟩ := HK.out
                        subst hn
                        have HQ := Lib.hid (And.intro hk (And.intro hJ hpm))
                        clear HK hk hJ hpm
                        go_wp2_with (at_builtin; refine own_app3 HQ.out.1.1 HQ.out.1.2.size HI.out (by have := HQ.out.2.1; omega) rfl _ _ rfl rfl rfl ?_; intro A8 c8 w8 hown hg8; have HK8 := Lib.hid (HQ.out.1.app hown hg8); clear hown hg8)
                        go_meet
                        case rel => exact ⟨_, _, _, rfl, KC.yes HK8.out HQ.out.2.1 HQ.out.2.2 HB9.out⟩
                    case rest =>
                      clear hc HBW HK HC9 HB9
                      obtain ⟨A1, n1, c1, rfl, HK⟩ := hcut
                      have HBW : Hid (Below w.heap.size w wc) := Lib.hid (by obtain ⟨L, hk, _⟩ := HK.out; exact hk.2)
                      have hc : wc.cell? ⟨g, 11, none⟩ = some (.pointer p10) := Blk.at_ HB.out HBW.out HLT.out HC10.out
                      go_upto_if 96 with (fail)
                      go_cut [3] from 92 to 99 (fun v wx => ∃ A n c, v = .slice A n c ∧ Hid (KC w wx S (.slice A n c) n 11 (⟨#[110, 97, 109, 101]⟩ :: ⟨#[109, 105, 100, 100, 108, 101, 95, 110, 97, 109, 101]⟩ :: ⟨#[108, 111, 99, 97, 108, 101]⟩ :: ⟨#[106, 116, 105]⟩ :: ⟨#[105, 115, 115]⟩ :: ⟨#[103, 105, 118, 101, 110, 95, 110, 97, 109, 101]⟩ :: ⟨#[103, 101, 110, 100, 101, 114]⟩ :: ⟨#[102, 97, 109, 105, 108, 121, 95, 110, 97, 109, 101]⟩ :: ⟨#[101, 109, 97, 105, 108, 95, 118, 101, 114, 105, 102, 105, 101, 100]⟩ :: ⟨#[101, 109, 97, 105, 108]⟩ :: ⟨#[97, 117, 100]⟩ :: [])))
                      case first =>
                        cases p10 with
                        | none =>
                          go_wp2_with fail
                          go_meet
                          case rel => exact ⟨_, _, _, rfl, HK.out.no HB10.out⟩
                        | some q =>
                          obtain ⟨L, hk, hn, hJ, hpm⟩ := HK.out
                          subst hn
                          have HQ := Lib.hid (And.intro hk (And.intro hJ hpm))
                          clear HK hk hJ hpm
                          go_wp2_with (at_builtin; refine own_app3 HQ.out.1.1 HQ.out.1.2.size HI.out (by have := HQ.out.2.1; omega) rfl _ _ rfl rfl rfl ?_; intro A8 c8 w8 hown hg8; have HK8 := Lib.hid (HQ.out.1.app hown hg8); clear hown hg8)
                          go_meet
                          case rel => exact ⟨_, _, _, rfl, KC.yes HK8.out HQ.out.2.1 HQ.out.2.2 HB10.out⟩
                      case rest =>
                        clear hc HBW HK HC10 HB10
                        obtain ⟨A1, n1, c1, rfl, HK⟩ := hcut
                        have HBW : Hid (Below w.heap.size w wc) := Lib.hid (by obtain ⟨L, hk, _⟩ := HK.out; exact hk.2)
                        have hc : wc.cell? ⟨g, 12, none⟩ = some (.pointer p11) := Blk.at_ HB.out HBW.out HLT.out HC11.out
                        go_upto_if 104 with (fail)
                        go_cut [3] from 100 to 107 (fun v wx => ∃ A n c, v = .slice A n c ∧ Hid (KC w wx S (.slice A n c) n 12 (⟨#[110, 105, 99, 107, 110, 97, 109, 101]⟩ :: ⟨#[110, 97, 109, 101]⟩ :: ⟨#[109, 105, 100, 100, 108, 101, 95, 110, 97, 109, 101]⟩ :: ⟨#[108, 111, 99, 97, 108, 101]⟩ :: ⟨#[106, 116, 105]⟩ :: ⟨#[105, 115, 115]⟩ :: ⟨#[103, 105, 118, 101, 110, 95, 110, 97, 109, 101]⟩ :: ⟨#[103, 101, 110, 100, 101, 114]⟩ :: ⟨#[102, 97, 109, 105, 108, 121, 95, 110, 97, 109, 101]⟩ :: ⟨#[101, 109, 97, 105, 108, 95, 118, 101, 114, 105, 102, 105, 101, 100]⟩ :: ⟨#[101, 109, 97, 105, 108]⟩ :: ⟨#[97, 117, 100]⟩ :: [])))
                        case first =>
                          cases p11 with
                          | none =>
                            go_wp2_with fail
                            go_meet
                            case rel => exact ⟨_, _, _, rfl, HK.out.no HB11.out⟩
                          | some q =>
                            obtain ⟨L, hk, hn, hJ, hpm⟩ := HK.out
                            subst hn
                            have HQ := Lib.hid (And.intro hk (And.intro hJ hpm))
                            clear HK hk hJ hpm
                            go_wp2_with (at_builtin; refine own_app3 HQ.out.1.1 HQ.out.1.2.size HI.out (by have := HQ.out.2.1; omega) rfl _ _ rfl rfl rfl ?_; intro A8 c8 w8 hown hg8; have HK8 := Lib.hid (HQ.out.1.app hown hg8); clear hown hg8)
                            go_meet
                            case rel => exact ⟨_, _, _, rfl, KC.yes HK8.out HQ.out.2.1 HQ.out.2.2 HB11.out⟩
                        case rest =>
                          clear hc HBW HK HC11 HB11
                          obtain ⟨A1, n1, c1, rfl, HK⟩ := hcut
                          have HBW : Hid (Below w.heap.size w wc) := Lib.hid (by obtain ⟨L, hk, _⟩ := HK.out; exact hk.2)
                          have hc : wc.cell? ⟨g, 13, none⟩ = some (.pointer p12) := Blk.at_ HB.out HBW.out HLT.out HC12.out
                          go_upto_if 112 with (fail)
                          go_cut [3] from 108 to 115 (fun v wx => ∃ A n c, v = .slice A n c ∧ Hid (KC w wx S (.slice A n c) n 13 (⟨#[112, 104, 111, 110, 101, 95, 110, 117, 109, 98, 101, 114]⟩ :: ⟨#[110, 105, 99, 107, 110, 97, 109, 101]⟩ :: ⟨#[110, 97, 109, 101]⟩ :: ⟨#[109, 105, 100, 100, 108, 101, 95, 110, 97, 109, 101]⟩ :: ⟨#[108, 111, 99, 97, 108, 101]⟩ :: ⟨#[106, 116, 105]⟩ :: ⟨#[105, 115, 115]⟩ :: ⟨#[103, 105, 118, 101, 110, 95, 110, 97, 109, 101]⟩ :: ⟨#[103, 101, 110, 100, 101, 114]⟩ :: ⟨#[102, 97, 109, 105, 108, 121, 95, 110, 97, 109, 101]⟩ :: ⟨#[101, 109, 97, 105, 108, 95, 118, 101, 114, 105, 102, 105, 101, 100]⟩ :: ⟨#[101, 109, 97, 105, 108]⟩ :: ⟨#[97, 117, 100]⟩ :: [])))
                          case first =>
                            cases p12 with
                            | none =>
                              go_wp2_with fail
                              go_meet
                              case rel => exact ⟨_, _, _, rfl, HK.out.no HB12.out⟩
                            | some q =>
                              obtain ⟨L, hk, hn, hJ, hpm⟩ := HK.out
                              subst hn
                              have HQ := Lib.hid (And.intro hk (And.intro hJ hpm))
                              clear HK hk hJ hpm
                              go_wp2_with (at_builtin; refine own_app3 HQ.out.1.1 HQ.out.1.2.size HI.out (by have := HQ.out.2.1; omega) rfl _ _ rfl rfl rfl ?_; intro A8 c8 w8 hown hg8; have HK8 := Lib.hid (HQ.out.1.app hown hg8); clear hown hg8)
                              go_meet
                              case rel => exact ⟨_, _, _, rfl, KC.yes HK8.out HQ.out.2.1 HQ.out.2.2 HB12.out⟩
                          case rest =>
                            clear hc HBW HK HC12 HB12
                            obtain ⟨A1, n1, c1, rfl, HK⟩ := hcut
                            have HBW : Hid (Below w.heap.size w wc) := Lib.hid (by obtain ⟨L, hk, _⟩ := HK.out; exact hk.2)
                            have hc : wc.cell? ⟨g, 14, none⟩ = some (.pointer p13) := Blk.at_ HB.out HBW.out HLT.out HC13.out
                            go_upto_if 120 with (fail)
                            go_cut [3] from 116 to 123 (fun v wx => ∃ A n c, v = .slice A n c ∧ Hid (KC w wx S (.slice A n c) n 14 (⟨#[112, 104, 111, 110, 101, 95, 110, 117, 109, 98, 101, 114, 95, 118, 101, 114, 105, 102, 105, 101, 100]⟩ :: ⟨#[112, 104, 111, 110, 101, 95, 110, 117, 109, 98, 101, 114]⟩ :: ⟨#[110, 105, 99, 107, 110, 97, 109, 101]⟩ :: ⟨#[110, 97, 109, 101]⟩ :: ⟨#[109, 105, 100, 100, 108, 101, 95, 110, 97, 109, 101]⟩ :: ⟨#[108, 111, 99, 97, 108, 101]⟩ :: ⟨#[106, 116, 105]⟩ :: ⟨#[105, 115, 115]⟩ :: ⟨#[103, 105, 118, 101, 110, 95, 110, 97, 109, 101]⟩ :: ⟨#[103, 101, 110, 100, 101, 114]⟩ :: ⟨#[102, 97, 109, 105, 108, 121, 95, 110, 97, 109, 101]⟩ :: ⟨#[101, 109, 97, 105, 108, 95, 118, 101, 114, 105, 102, 105, 101, 100]⟩ :: ⟨#[101, 109, 97, 105, 108]⟩ :: ⟨#[97, 117, 100]⟩ :: [])))
                            case first =>
                              cases p13 with
                              | none =>
                                go_wp2_with fail
                                go_meet
                                case rel => exact ⟨_, _, _, rfl, HK.out.no HB13.out⟩
                              | some q =>
                                obtain ⟨L, hk, hn, hJ, hpm⟩ := HK.out
                                subst hn
                                have HQ := Lib.hid (And.intro hk (And.intro hJ hpm))
                                clear HK hk hJ hpm
                                go_wp2_with (at_builtin; refine own_app3 HQ.out.1.1 HQ.out.1.2.size HI.out (by have := HQ.out.2.1; omega) rfl _ _ rfl rfl rfl ?_; intro A8 c8 w8 hown hg8; have HK8 := Lib.hid (HQ.out.1.app hown hg8); clear hown hg8)
                                go_meet
                                case rel => exact ⟨_, _, _, rfl, KC.yes HK8.out HQ.out.2.1 HQ.out.2.2 HB13.out⟩
                            case rest =>
                              clear hc HBW HK HC13 HB13
                              obtain ⟨A1, n1, c1, rfl, HK⟩ := hcut
                              have HBW : Hid (Below w.heap.size w wc) := Lib.hid (by obtain ⟨L, hk, _⟩ := HK.out; exact hk.2)
                              have hc : wc.cell? ⟨g, 15, none⟩ = some (.pointer p14) := Blk.at_ HB.out HBW.out HLT.out HC14.out
                              go_upto_if 128 with (fail)
                              go_cut [3] from 124 to 131 (fun v wx => ∃ A n c, v = .slice A n c ∧ Hid (KC w wx S (.slice A n c) n 15 (⟨#[112, 105, 99, 116, 117, 114, 101]⟩ :: ⟨#[112, 104, 111, 110, 101, 95, 110, 117, 109, 98, 101, 114, 95, 118, 101, 114, 105, 102, 105, 101, 100]⟩ :: ⟨#[112, 104, 111, 110, 101, 95, 110, 117, 109, 98, 101, 114]⟩ :: ⟨#[110, 105, 99, 107, 110, 97, 109, 101]⟩ :: ⟨#[110, 97, 109, 101]⟩ :: ⟨#[109, 105, 100, 100, 108, 101, 95, 110, 97, 109, 101]⟩ :: ⟨#[108, 111, 99, 97, 108, 101]⟩ :: ⟨#[106, 116, 105]⟩ :: ⟨#[105, 115, 115]⟩ :: ⟨#[103, 105, 118, 101, 110, 95, 110, 97, 109, 101]⟩ :: ⟨#[103, 101, 110, 100, 101, 114]⟩ :: ⟨#[102, 97, 109, 105, 108, 121, 95, 110, 97, 109, 101]⟩ :: ⟨#[101, 109, 97, 105, 108, 95, 118, 101, 114, 105, 102, 105, 101, 100]⟩ :: ⟨#[101, 109, 97, 105, 108]⟩ :: ⟨#[97, 117, 100]⟩ :: [])))
                              case first =>
                                cases p14 with
                                | none =>
                                  go_wp2_with fail
                                  go_meet
                                  case rel => exact ⟨_, _, _, rfl, HK.out.no HB14.out⟩
                                | some q =>
                                  obtain ⟨L, hk, hn, hJ, hpm⟩ := HK.out
                                  subst hn
                                  have HQ := Lib.hid (And.intro hk (And.intro hJ hpm))
                                  clear HK hk hJ hpm
                                  go_wp2_with (at_builtin; refine own_app3 HQ.out.1.1 HQ.out.1.2.size HI.out (by have := HQ.out.2.1; omega) rfl _ _ rfl rfl rfl ?_; intro A8 c8 w8 hown hg8; have HK8 := Lib.hid (HQ.out.1.app hown hg8); clear hown hg8)
                                  go_meet
                                  case rel => exact ⟨_, _, _, rfl, KC.yes HK8.out HQ.out.2.1 HQ.out.2.2 HB14.out⟩
                              case rest =>
                                clear hc HBW HK HC14 HB14
                                obtain ⟨A1, n1, c1, rfl, HK⟩ := hcut
                                have HBW : Hid (Below w.heap.size w wc) := Lib.hid (by obtain ⟨L, hk, _⟩ := HK.out; exact hk.2)
                                have hc : wc.cell? ⟨g, 16, none⟩ = some (.pointer p15) := Blk.at_ HB.out HBW.out HLT.out HC15.out
                                go_upto_if 136 with (fail)
                                go_cut [3] from 132 to 139 (fun v wx => ∃ A n c, v = .slice A n c ∧ Hid (KC w wx S (.slice A n c) n 16 (⟨#[112, 114, 101, 102, 101, 114, 114, 101, 100, 95, 117, 115, 101, 114, 110, 97, 109, 101]⟩ :: ⟨#[112, 105, 99, 116, 117, 114, 101]⟩ :: ⟨#[112, 104, 111, 110, 101, 95, 110, 117, 109, 98, 101, 114, 95, 118, 101, 114, 105, 102, 105, 101, 100]⟩ :: ⟨#[112, 104, 111, 110, 101, 95, 110, 117, 109, 98, 101, 114]⟩ :: ⟨#[110, 105, 99, 107, 110, 97, 109, 101]⟩ :: ⟨#[110, 97, 109, 101]⟩ :: ⟨#[109, 105, 100, 100, 108, 101, 95, 110, 97, 109, 101]⟩ :: ⟨#[108, 111, 99, 97, 108, 101]⟩ :: ⟨#[106, 116, 105]⟩ :: ⟨#[105, 115, 115]⟩ :: ⟨#[103, 105, 118, 101, 110, 95, 110, 97, 109, 101]⟩ :: ⟨#[103, 101, 110, 100, 101, 114]⟩ :: ⟨#[102, 97, 109, 105, 108, 121, 95, 110, 97, 109, 101]⟩ :: ⟨#[101, 109, 97, 105, 108, 95, 118, 101, 114, 105, 102, 105, 101, 100]⟩ :: ⟨#[101, 109, 97, 105, 108]⟩ :: ⟨#[97, 117, 100]⟩ :: [])))
                                case first =>
                                  cases p15 with
                                  | none =>
                                    go_wp2_with fail
                                    go_meet
                                    case rel => exact ⟨_, _, _, rfl, HK.out.no HB15.out⟩
                                  | some q =>
                                    obtain ⟨L, hk, hn, hJ, hpm⟩ := HK.out
                                    subst hn
                                    have HQ := Lib.hid (And.intro hk (And.intro hJ hpm))
                                    clear HK hk hJ hpm
                                    go_wp2_with (at_builtin; refine own_app3 HQ.out.1.1 HQ.out.1.2.size HI.out (by have := HQ.out.2.1; omega) rfl _ _ rfl rfl rfl ?_; intro A8 c8 w8 hown hg8; have HK8 := Lib.hid (HQ.out.1.app hown hg8); clear hown hg8)
                                    go_meet
                                    case rel => exact ⟨_, _, _, rfl, KC.yes HK8.out HQ.out.2.1 HQ.out.2.2 HB15.out⟩
                                case rest =>
                                  clear hc HBW HK HC15 HB15
                                  obtain ⟨A1, n1, c1, rfl, HK⟩ := hcut
                                  have HBW : Hid (Below w.heap.size w wc) := Lib.hid (by obtain ⟨L, hk, _⟩ := HK.out; exact hk.2)
                                  have hc : wc.cell? ⟨g, 17, none⟩ = some (.pointer p16) := Blk.at_ HB.out HBW.out HLT.out HC16.out
                                  go_upto_if 144 with (fail)
                                  go_cut [3] from 140 to 147 (fun v wx => ∃ A n c, v = .slice A n c ∧ Hid (KC w wx S (.slice A n c) n 17 (⟨#[112, 114, 111, 102, 105, 108, 101]⟩ :: ⟨#[112, 114, 101, 102, 101, 114, 114, 101, 100, 95, 117, 115, 101, 114, 110, 97, 109, 101]⟩ :: ⟨#[112, 105, 99, 116, 117, 114, 101]⟩ :: ⟨#[112, 104, 111, 110, 101, 95, 110, 117, 109, 98, 101, 114, 95, 118, 101, 114, 105, 102, 105, 101, 100]⟩ :: ⟨#[112, 104, 111, 110, 101, 95, 110, 117, 109, 98, 101, 114]⟩ :: ⟨#[110, 105, 99, 107, 110, 97, 109, 101]⟩ :: ⟨#[110, 97, 109, 101]⟩ :: ⟨#[109, 105, 100, 100, 108, 101, 95, 110, 97, 109, 101]⟩ :: ⟨#[108, 111, 99, 97, 108, 101]⟩ :: ⟨#[106, 116, 105]⟩ :: ⟨#[105, 115, 115]⟩ :: ⟨#[103, 105, 118, 101, 110, 95, 110, 97, 109, 101]⟩ :: ⟨#[103, 101, 110, 100, 101, 114]⟩ :: ⟨#[102, 97, 109, 105, 108, 121, 95, 110, 97, 109, 101]⟩ :: ⟨#[101, 109, 97, 105, 108, 95, 118, 101, 114, 105, 102, 105, 101, 100]⟩ :: ⟨#[101, 109, 97, 105, 108]⟩ :: ⟨#[97, 117, 100]⟩ :: [])))
                                  case first =>
                                    cases p16 with
                                    | none =>
                                      go_wp2_with fail
                                      go_meet
                                      case rel => exact ⟨_, _, _, rfl, HK.out.no HB16.out⟩
                                    | some q =>
                                      obtain ⟨L, hk, hn, hJ, hpm⟩ := HK.out
                                      subst hn
                                      have HQ := Lib.hid (And.intro hk (And.intro hJ hpm))
                                      clear HK hk hJ hpm
                                      go_wp2_with (at_builtin; refine own_app3 HQ.out.1.1 HQ.out.1.2.size HI.out (by have := HQ.out.2.1; omega) rfl _ _ rfl rfl rfl ?_; intro A8 c8 w8 hown hg8; have HK8 := Lib.hid (HQ.out.1.app hown hg8); clear hown hg8)
                                      go_meet
                                      case rel => exact ⟨_, _, _, rfl, KC.yes HK8.out HQ.out.2.1 HQ.out.2.2 HB16.out⟩
                                  case rest =>
                                    clear hc HBW HK HC16 HB16
                                    obtain ⟨A1, n1, c1, rfl, HK⟩ := hcut
                                    have HBW : Hid (Below w.heap.size w wc) := Lib.hid (by obtain ⟨L, hk, _⟩ := HK.out; exact hk.2)
                                    have hc : wc.cell? ⟨g, 18, none⟩ = some (.pointer p17) := Blk.at_ HB.out HBW.out HLT.out HC17.out
                                    go_upto_if 152 with (fail)
                                    go_cut [3] from 148 to 155 (fun v wx => ∃ A n c, v = .slice A n c ∧ Hid (KC w wx S (.slice A n c) n 18 (⟨#[115, 117, 98]⟩ :: ⟨#[112, 114, 111, 102, 105, 108, 101]⟩ :: ⟨#[112, 114, 101, 102, 101, 114, 114, 101, 100, 95, 117, 115, 101, 114, 110, 97, 109, 101]⟩ :: ⟨#[112, 105, 99, 116, 117, 114, 101]⟩ :: ⟨#[112, 104, 111, 110, 101, 95, 110, 117, 109, 98, 101, 114, 95, 118, 101, 114, 105, 102, 105, 101, 100]⟩ :: ⟨#[112, 104, 111, 110, 101, 95, 110, 117, 109, 98, 101, 114]⟩ :: ⟨#[110, 105, 99, 107, 110, 97, 109, 101]⟩ :: ⟨#[110, 97, 109, 101]⟩ :: ⟨#[109, 105, 100, 100, 108, 101, 95, 110, 97, 109, 101]⟩ :: ⟨#[108, 111, 99, 97, 108, 101]⟩ :: ⟨#[106, 116, 105]⟩ :: ⟨#[105, 115, 115]⟩ :: ⟨#[103, 105, 118, 101, 110, 95, 110, 97, 109, 101]⟩ :: ⟨#[103, 101, 110, 100, 101, 114]⟩ :: ⟨#[102, 97, 109, 105, 108, 121, 95, 110, 97, 109, 101]⟩ :: ⟨#[101, 109, 97, 105, 108, 95, 118, 101, 114, 105, 102, 105, 101, 100]⟩ :: ⟨#[101, 109, 97, 105, 108]⟩ :: ⟨#[97, 117, 100]⟩ :: [])))
                                    case first =>
                                      cases p17 with
                                      | none =>
                                        go_wp2_with fail
                                        go_meet
                                        case rel => exact ⟨_, _, _, rfl, HK.out.no HB17.out⟩
                                      | some q =>
                                        obtain ⟨L, hk, hn, hJ, hpm⟩ := HK.out
                                        subst hn
                                        have HQ := Lib.hid (And.intro hk (And.intro hJ hpm))
                                        clear HK hk hJ hpm
                                        go_wp2_with (at_builtin; refine own_app3 HQ.out.1.1 HQ.out.1.2.size HI.out (by have := HQ.out.2.1; omega) rfl _ _ rfl rfl rfl ?_; intro A8 c8 w8 hown hg8; have HK8 := Lib.hid (HQ.out.1.app hown hg8); clear hown hg8)
                                        go_meet
                                        case rel => exact ⟨_, _, _, rfl, KC.yes HK8.out HQ.out.2.1 HQ.out.2.2 HB17.out⟩
                                    case rest =>
                                      clear hc HBW HK HC17 HB17
                                      obtain ⟨A1, n1, c1, rfl, HK⟩ := hcut
                                      have HBW : Hid (Below w.heap.size w wc) := Lib.hid (by obtain ⟨L, hk, _⟩ := HK.out; exact hk.2)
                                      have hc : wc.cell? ⟨g, 19, none⟩ = some (.pointer p18) := Blk.at_ HB.out HBW.out HLT.out HC18.out
                                      go_upto_if 160 with (fail)
                                      go_cut [3] from 156 to 163 (fun v wx => ∃ A n c, v = .slice A n c ∧ Hid (KC w wx S (.slice A n c) n 19 (⟨#[119, 101, 98, 115, 105, 116, 101]⟩ :: ⟨#[115, 117, 98]⟩ :: ⟨#[112, 114, 111, 102, 105, 108, 101]⟩ :: ⟨#[112, 114, 101, 102, 101, 114, 114, 101, 100, 95, 117, 115, 101, 114, 110, 97, 109, 101]⟩ :: ⟨#[112, 105, 99, 116, 117, 114, 101]⟩ :: ⟨#[112, 104, 111, 110, 101, 95, 110, 117, 109, 98, 101, 114, 95, 118, 101, 114, 105, 102, 105, 101, 100]⟩ :: ⟨#[112, 104, 111, 110, 101, 95, 110, 117, 109, 98, 101, 114]⟩ :: ⟨#[110, 105, 99, 107, 110, 97, 109, 101]⟩ :: ⟨#[110, 97, 109, 101]⟩ :: ⟨#[109, 105, 100, 100, 108, 101, 95, 110, 97, 109, 101]⟩ :: ⟨#[108, 111, 99, 97, 108, 101]⟩ :: ⟨#[106, 116, 105]⟩ :: ⟨#[105, 115, 115]⟩ :: ⟨#[103, 105, 118, 101, 110, 95, 110, 97, 109, 101]⟩ :: ⟨#[103, 101, 110, 100, 101, 114]⟩ :: ⟨#[102, 97, 109, 105, 108, 121, 95, 110, 97, 109, 101]⟩ :: ⟨#[101, 109, 97, 105, 108, 95, 118, 101, 114, 105, 102, 105, 101, 100]⟩ :: ⟨#[101, 109, 97, 105, 108]⟩ :: ⟨#[97, 117, 100]⟩ :: [])))
                                      case first =>
                                        cases p18 with
                                        | none =>
                                          go_wp2_with fail
                                          go_meet
                                          case rel => exact ⟨_, _, _, rfl, HK.out.no HB18.out⟩
                                        | some q =>
                                          obtain ⟨L, hk, hn, hJ, hpm⟩ := HK.out
                                          subst hn
                                          have HQ := Lib.hid (And.intro hk (And.intro hJ hpm))
                                          clear HK hk hJ hpm
                                          go_wp2_with (at_builtin; refine own_app3 HQ.out.1.1 HQ.out.1.2.size HI.out (by have := HQ.out.2.1; omega) rfl _ _ rfl rfl rfl ?_; intro A8 c8 w8 hown hg8; have HK8 := Lib.hid (HQ.out.1.app hown hg8); clear hown hg8)
                                          go_meet
                                          case rel => exact ⟨_, _, _, rfl, KC.yes HK8.out HQ.out.2.1 HQ.out.2.2 HB18.out⟩
                                      case rest =>
                                        clear hc HBW HK HC18 HB18
                                        obtain ⟨A1, n1, c1, rfl, HK⟩ := hcut
                                        have HBW : Hid (Below w.heap.size w wc) := Lib.hid (by obtain ⟨L, hk, _⟩ := HK.out; exact hk.2)
                                        have hc : wc.cell? ⟨g, 20, none⟩ = some (.pointer p19) := Blk.at_ HB.out HBW.out HLT.out HC19.out
                                        go_upto_if 168 with (fail)
                                        go_cut [3] from 164 to 171 (fun v wx => ∃ A n c, v = .slice A n c ∧ Hid (KC w wx S (.slice A n c) n 20 (⟨#[122, 111, 110, 101, 105, 110, 102, 111]⟩ :: ⟨#[119, 101, 98, 115, 105, 116, 101]⟩ :: ⟨#[115, 117, 98]⟩ :: ⟨#[112, 114, 111, 102, 105, 108, 101]⟩ :: ⟨#[112, 114, 101, 102, 101, 114, 114, 101, 100, 95, 117, 115, 101, 114, 110, 97, 109, 101]⟩ :: ⟨#[112, 105, 99, 116, 117, 114, 101]⟩ :: ⟨#[112, 104, 111, 110, 101, 95, 110, 117, 109, 98, 101, 114, 95, 118, 101, 114, 105, 102, 105, 101, 100]⟩ :: ⟨#[112, 104, 111, 110, 101, 95, 110, 117, 109, 98, 101, 114]⟩ :: ⟨#[110, 105, 99, 107, 110, 97, 109, 101]⟩ :: ⟨#[110, 97, 109, 101]⟩ :: ⟨#[109, 105, 100, 100, 108, 101, 95, 110, 97, 109, 101]⟩ :: ⟨#[108, 111, 99, 97, 108, 101]⟩ :: ⟨#[106, 116, 105]⟩ :: ⟨#[105, 115, 115]⟩ :: ⟨#[103, 105, 118, 101, 110, 95, 110, 97, 109, 101]⟩ :: ⟨#[103, 101, 110, 100, 101, 114]⟩ :: ⟨#[102, 97, 109, 105, 108, 121, 95, 110, 97, 109, 101]⟩ :: ⟨#[101, 109, 97, 105, 108, 95, 118, 101, 114, 105, 102, 105, 101, 100]⟩ :: ⟨#[101, 109, 97, 105, 108]⟩ :: ⟨#[97, 117, 100]⟩ :: [])))
                                        case first =>
                                          cases p19 with
                                          | none =>
                                            go_wp2_with fail
                                            go_meet
                                            case rel => exact ⟨_, _, _, rfl, HK.out.no HB19.out⟩
                                          | some q =>
                                            obtain ⟨L, hk, hn, hJ, hpm⟩ := HK.out
                                            subst hn
                                            have HQ := Lib.hid (And.intro hk (And.intro hJ hpm))
                                            clear HK hk hJ hpm
                                            go_wp2_with (at_builtin; refine own_app3 HQ.out.1.1 HQ.out.1.2.size HI.out (by have := HQ.out.2.1; omega) rfl _ _ rfl rfl rfl ?_; intro A8 c8 w8 hown hg8; have HK8 := Lib.hid (HQ.out.1.app hown hg8); clear hown hg8)
                                            go_meet
                                            case rel => exact ⟨_, _, _, rfl, KC.yes HK8.out HQ.out.2.1 HQ.out.2.2 HB19.out⟩
                                        case rest =>
                                          clear hc HBW HK HC19 HB19
                                          obtain ⟨A1, n1, c1, rfl, HK⟩ := hcut
                                          obtain ⟨L0, hk, hn, hJ, hpm⟩ := HK.out
                                          subst hn
                                          have HQ := Lib.hid (And.intro hk (And.intro hJ (hpm.trans ((List.reverse_perm ((fldK 3).map (·.1))).filter _))))
                                          clear HK hk hJ hpm
                                          have hcm : wc.cell? ⟨g, 21, none⟩ = some (.map m) := Blk.at_ HB.out HQ.out.1.2 HLT.out HM.out
                                          rcases HP.out.prv with ⟨rfl, h0⟩ | ⟨mm, E, rfl, _, h3, h4, _⟩
                                          · have hrng := run_range_nilMap (P := Tryz.prog) wc 169 _ _ Tryz.underlying169
                                            have hnx := fun ty => run_next_nilMap (P := Tryz.prog) wc ty 0 0 #[]
                                            have H0 := Lib.hid h0
                                            clear h0
                                            go_wp2_with fail
                                            refine wp_loop_rounds 1 ?_
                                            rw [rounds_succ]
                                            go_wp2
                                            go_ret
                                            exact ⟨_, _, _, _, rfl, HQ.out.1.1.alloc _, (by have h := keys_end HP.out.nd HQ.out.2.2 (Ns := []) (by rw [H0.out]; exact List.Perm.nil); rw [List.append_nil] at h; exact h), below_alloc' HQ.out.1.2 _⟩
                                          · obtain ⟨w4, hrng, hR4, hg4, _⟩ := run_range (P := Tryz.prog) Tryz.underlying169 wc mm _ (h3.below HQ.out.1.2 h3.lt)
                                            have hnd : ((E.map fun t => (t.1, t.2.1)).map (·.1)) = (priv 3 S).map (·.1) := by rw [← h4, List.map_map, List.map_map]; rfl
                                            have HND := Lib.hid hnd
                                            obtain ⟨L, hL⟩ : ∃ L, L = E.map fun t => (t.1, t.2.1) := ⟨_, rfl⟩
                                            rw [← hL] at hR4 HND
                                            have HNN : Hid ((L.map (·.1)).Nodup) := Lib.hid (by rw [HND.out]; exact (List.filter_sublist.map _).nodup HP.out.nd)
                                            have HLL : Hid (L.length ≤ 100000) := Lib.hid (by have e := congrArg List.length HND.out; rw [List.length_map, List.length_map] at e; rw [e]; exact Nat.le_trans (List.length_filter_le _ _) HS.out)
                                            have HR := Lib.hid (KRng.start HQ.out.1 hR4 hg4 HQ.out.1.2.size)
                                            have HQ2 := Lib.hid HQ.out.2
                                            clear h3 h4 hnd hL hR4 hg4 HQ
                                            go_wp2_with fail
                                            go_loopg [3, 4] (togo L []) (fun q v3 v4 wr => ∃ ds A n c, q = togo L ds ∧ v3 = .slice A n c ∧ Hid (KRng w wr mm wc.heap.size L L0 ds (.slice A n c) ∧ n = (L0 ++ ds.map (·.1)).length))
                                            case atStart => exact ⟨[], _, _, _, rfl, rfl, HR.out, by simp⟩
                                            case round =>
                                              clear HR
                                              obtain ⟨ds, A, n, c, hk, rfl, HR⟩ := hrel
                                              have HKK := Lib.hid hk
                                              clear hk
                                              rcases HR.out.1.rg.next (P := Tryz.prog) 0 HNN.out with ⟨hall, hrun⟩ | ⟨q, hq, hf, w5, hrun, hR5, hg5, hent⟩
                                              · have HA := Lib.hid hall
                                                clear hall
                                                go_wp2
                                                go_ret
                                                have hsub := HR.out.1.rg.sub
                                                have hpm := (all_perm HNN.out hsub.2 hsub.1 HA.out).map (·.1)
                                                have ho := HR.out.1.kr.1
                                                rw [← HR.out.2] at ho
                                                exact ⟨_, _, _, _, rfl, ho, keys_end HP.out.nd HQ2.out.2 (hpm.trans (by rw [HND.out])), HR.out.1.kr.2⟩
                                              · have HH := Lib.hid (And.intro hq (And.intro hf (And.intro hR5 hg5)))
                                                have HN : Hid (n < 1000000) := Lib.hid (by
                                                  have h1 := HR.out.2
                                                  have h2 := HQ2.out.1
                                                  have hsub := HR.out.1.rg.sub
                                                  have h3 : ds.length ≤ L.length := nodup_len hsub.2 hsub.1
                                                  have h4 := HLL.out
                                                  rw [List.length_append, List.length_map] at h1
                                                  omega)
                                                have HO5 := Lib.hid (HR.out.1.own5 hg5)
                                                clear hq hf hR5 hg5
                                                go_wp2_with (at_builtin; refine own_app3 (by have h := HO5.out.1; rwa [← HR.out.2] at h) HO5.out.2 HI.out HN.out rfl _ _ rfl rfl rfl ?_; intro A8 c8 w8 hown hg8; have HK8 := Lib.hid (HR.out.1.step HH.out.2.2.1 HH.out.2.2.2 hown hg8 HR.out.2); clear hown hg8)
                                                go_roundg (togo L (ds ++ [q]))
                                                case measure => rw [HKK.out]; exact togo_less HH.out.1 HH.out.2.1
                                                case rel => exact ⟨ds ++ [q], _, _, _, rfl, rfl, HK8.out, by have := HR.out.2; simp at this ⊢; omega⟩
end Go.Proofs.YtapjbdigpleekaaGreat.Mp
