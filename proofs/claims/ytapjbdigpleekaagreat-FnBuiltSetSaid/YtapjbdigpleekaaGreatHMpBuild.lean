import Derived.Test.YtapjbdigpleekaaGreatHMpBld
import Derived.Test.YtapjbdigpleekaaGreatGP
/- jwt.Builder's Build: a range over the claims in any order, each one set in a new token. The conditions are on what lies in memory. -/
set_option linter.unusedVariables false
set_option linter.unusedSimpArgs false
namespace Go.Proofs.YtapjbdigpleekaaGreat.Mp
open Go.RowKit Go.Proofs.YtapjbdigpleekaaGreat.K Go.Proofs.YtapjbdigpleekaaGreat.Cl
/-- What a name comes to, if it is taken. -/
def tkn (k : Nat) (S : List NP) (n : ByteArray) : Option PV := (lookG S n).bind (takeK k n)
def BuildP (B : Nat) (S : List NP) (w : World) (e : Ending) (w' : World) : Prop :=
  (∃ g T, e = .returned (.tuple #[.iface 206 (.pointer (some ⟨g, 0, none⟩)), .nilIface]) ∧ Hd 2 w' B g T ∧ (∀ n, lookG T n = tkn 2 S n) ∧ (∀ n ∈ S.map (·.1), tkn 2 S n ≠ none) ∧ Below B w w') ∨
  (∃ T u n, e = .returned (.tuple #[.nilIface, .iface T u]) ∧ n ∈ S.map (·.1) ∧ tkn 2 S n = none ∧ Below B w w')
theorem RangL.keep {W W' : World} {m r g B : Nat} {L ds : List (ByteArray × Value)} (h : RangL W m r L ds) (hb : Below B W W') (hm : m < B) (hk : Keep W g W') (hne : r ≠ g) : RangL W' m r L ds := by
  obtain ⟨es, c, s, seen, c0, a1, a2, a3, a4, rest⟩ := h
  exact ⟨es, c, s, seen, c0, (hb.block m hm).trans a1, a2, a3, hk r _ a4 (fun _ _ e => by cases e) hne, rest⟩
theorem Hd.iter {k : Nat} {w w' : World} {B g m r : Nat} {S : List NP} {L ds : List (ByteArray × Value)} (h : Hd k w B g S) (hr : RangL w m r L ds) (hg : w.grownBy w' (some r)) : Hd k w' B g S := by
  obtain ⟨es, c, s, seen, c0, a1, a2, a3, a4, rest⟩ := hr
  obtain ⟨cs, mm, hp⟩ := h
  refine ⟨cs, mm, hp.grown hg (fun b cs' T z hb _ e => ?_) (fun e => ?_) (fun m2 hm2 e => ?_)⟩
  · injection e with e
    subst e
    rw [hb] at a4; cases a4
  · injection e with e
    subst e
    have := hp.blk
    unfold Blk at this
    rw [this] at a4; cases a4
  · injection e with e
    subst e
    rcases hp.prv with ⟨h0, _⟩ | ⟨m3, E, h0, _, ⟨es3, c3, h3, _⟩, _⟩
    · rw [hm2] at h0; cases h0
    · rw [hm2] at h0
      injection h0 with h0
      subst h0
      rw [h3] at a4; cases a4
theorem Hd.ne_iter {k : Nat} {w : World} {B g m r : Nat} {S : List NP} {L ds : List (ByteArray × Value)} (h : Hd k w B g S) (hr : RangL w m r L ds) : r ≠ g := by
  obtain ⟨es, c, s, seen, c0, a1, a2, a3, a4, rest⟩ := hr
  obtain ⟨cs, mm, hp⟩ := h
  rintro rfl
  have := hp.blk
  unfold Blk at this
  rw [this] at a4; cases a4
theorem Hd.low {k : Nat} {w : World} {B B' g : Nat} {S : List NP} (h : Hd k w B g S) (hb : B' ≤ B) : Hd k w B' g S := by
  obtain ⟨cs, mm, hp⟩ := h
  refine ⟨cs, mm, hp.blk, hp.map_, hp.rest, hp.fld, ?_, Nat.le_trans hb hp.base, hp.nd, hp.ok⟩
  rcases hp.prv with h0 | ⟨m2, E, h0, h1, h2⟩
  · exact .inl h0
  · exact .inr ⟨m2, E, h0, Nat.le_trans hb h1, h2⟩
/-- The range on its way: what has come is set. -/
structure BR (S : List NP) (w1 wr : World) (mm r gt : Nat) (L ds : List (ByteArray × Value)) (T : List NP) : Prop where
  rg : RangL wr mm r L ds
  hd : Hd 2 wr w1.heap.size gt T
  bel : Below w1.heap.size w1 wr
  tk : ∀ n, n ∈ ds.map (·.1) → lookG T n = tkn 2 S n
  no : ∀ n, n ∉ ds.map (·.1) → lookG T n = none
  al : ∀ n ∈ ds.map (·.1), tkn 2 S n ≠ none
theorem BR.step {S : List NP} {w1 wr w5 w6 : World} {mm r gt : Nat} {L ds : List (ByteArray × Value)} {T : List NP} {p : ByteArray × Value} {y : PV} (h : BR S w1 wr mm r gt L ds T) (hr5 : RangL w5 mm r L (ds ++ [p])) (hb5 : Below w1.heap.size w1 w5) (hg5 : Hd 2 w5 w1.heap.size gt T) (hm : mm < w1.heap.size)
    (hh : Hd 2 w6 w1.heap.size gt (putG p.1 y T)) (hb : Below w1.heap.size w5 w6) (hk : Keep w5 gt w6) (hy : tkn 2 S p.1 = some y) : BR S w1 w6 mm r gt L (ds ++ [p]) (putG p.1 y T) := by
  have hmm : ∀ n, n ∈ (ds ++ [p]).map (·.1) ↔ n ∈ ds.map (·.1) ∨ n = p.1 := fun n => by
    rw [List.map_append, List.mem_append, List.map_singleton, List.mem_singleton]
  refine ⟨hr5.keep hb hm hk (hg5.ne_iter hr5), hh, hb5.trans hb, fun n hn => ?_, fun n hn => ?_, fun n hn => ?_⟩
  · rw [lookG_putG]
    by_cases e : n = p.1
    · rw [if_pos e, e, hy]
    · rw [if_neg e, h.tk n (((hmm n).1 hn).resolve_right e)]
  · rw [lookG_putG, if_neg (fun e => hn ((hmm n).2 (.inr e))), h.no n (fun e => hn ((hmm n).2 (.inl e)))]
  · rcases (hmm n).1 hn with hn | hn
    · exact h.al n hn
    · rw [hn, hy]; simp
theorem nq_1 (W : World) : Sem.run Tryz.prog (binOp .neq 139 .nilIface .nilIface) W = .ok (.bool false) W := by kernel_rfl
theorem nq_2 (T : TypeId) (u : Value) (W : World) : Sem.run Tryz.prog (binOp .neq 139 (.iface T u) .nilIface) W = .ok (.bool true) W := by kernel_rfl
theorem ng_2 (T : TypeId) (u : Value) (i : Nat) (W : World) : Sem.run Tryz.prog (eqGuard .neq 139 (.tmp i) (.const .nilIface) (.iface T u) .nilIface) W = .ok () W := by kernel_rfl
set_option maxRecDepth 100000 in
set_option maxHeartbeats 4000000 in
theorem Build_calls {w : World} {B g : Nat} {m : Option Nat} {S : List NP} (h : Bld w B g m S) (hB : B ≤ w.heap.size) (hO : ∀ p ∈ S, p.1 ∉ othL 2) : Calls Tryz.prog 108 #[.pointer (some ⟨g, 0, none⟩)] w (BuildP B S w) := by
  have hc : w.cell? ⟨g, 0, none⟩ = some (.map m) := by rw [h.blk.cell]; rfl
  have hf : w.frozen? ⟨g, 0, none⟩ = false := h.blk.frozen 0
  have hg1 := setCell_grown w ⟨g, 0, none⟩ (.map none)
  have hsz : (w.setCell ⟨g, 0, none⟩ (.map none)).heap.size = w.heap.size := by simp [World.setCell]
  have HP := Lib.hid (And.intro h.nd (And.intro h.ok hO))
  have HV := Lib.hid (h.prv.grown hg1 h.safe (h.prv.ne h.blk))
  have HB := Lib.hid (And.intro hB ((Below.refl B w).setCell (p := ⟨g, 0, none⟩) h.base (.map none)))
  have HN := Lib.hid (jwt_new (w.setCell ⟨g, 0, none⟩ (.map none)))
  unfold NewK at HN
  have hSet := fun (W : World) (gt : Nat) (T : List NP) (B : Nat) (n : ByteArray) (v : Value) (x : PV) (h : Hd 2 W B gt T) => Set_calls (k := 2) (n := n) (v := v) (x := x) (by omega) h
  have HSE := Lib.hid hSet
  have a1 := fun (g : Nat) W => (mSet (k := 2) (g := g) (by omega) W).1
  have a2 := fun (g : Nat) W => (mSet (k := 2) (g := g) (by omega) W).2.1
  have a3 := fun W => (mSet (k := 2) (g := 0) (by omega) W).2.2
  obtain ⟨w1, hw1⟩ : ∃ w1, w1 = w.setCell ⟨g, 0, none⟩ (.map none) := ⟨_, rfl⟩
  have HER := Lib.hid errNew_calls
  rw [← hw1] at HV HB HN hsz
  have HSZ := Lib.hid hsz
  unfold BuildP
  rw [show 206 = ptK 2 from rfl]
  generalize ptK 2 = PT at HN a1 a2 ⊢
  generalize fSet 2 = FS at HSE a2 a3
  clear h hB hO hg1 hsz hSet
  go_enter Tryz.func108, Tryz.ntmps108
  go_upto_region 3 with (fail)
  rw [← hw1]
  clear hw1 hc hf
  go_wp2_with fail
  refine HN.out.mono ?_
  rintro e w2 ⟨gt, rfl, hh2, hb2⟩
  have H2 := Lib.hid (And.intro hh2 hb2)
  clear hh2 hb2 HN
  rcases HV.out with ⟨rfl, h0⟩ | ⟨mm, E, rfl, h2, h3, h4, h5⟩
  · have hrng := run_range_nilMap (P := Tryz.prog) w2 169 _ _ Tryz.underlying169
    have hnx := fun ty => run_next_nilMap (P := Tryz.prog) w2 ty 0 0 #[]
    have H0 := Lib.hid h0
    clear h0
    go_wp2_with fail
    refine wp_loop_rounds 1 ?_
    rw [rounds_succ]
    go_wp2
    have h0 := H0.out
    subst h0
    exact bodyPost_ret (v := .tuple #[.iface PT (.pointer (some ⟨gt, 0, none⟩)), .nilIface]) (by kernel_rfl) rfl (.inl ⟨gt, [], rfl, Hd.low (H2.out.1.below (below_alloc' (Below.refl _ _) _)) (by have := HSZ.out; have := HB.out.1; omega), (fun n => rfl), (fun n hn => by cases hn), (HB.out.2.trans (H2.out.2.mono (by have := HSZ.out; have := HB.out.1; omega))).trans (below_alloc' (Below.refl _ _) _ |>.mono (by have := H2.out.2.size; have := HSZ.out; have := HB.out.1; omega))⟩)
  · have hmlt : mm < w1.heap.size := h3.lt
    obtain ⟨w4, hrng, hR4, hg4, _⟩ := run_range (P := Tryz.prog) (mty := 169) Tryz.underlying169 w2 mm _ (h3.below H2.out.2 h3.lt)
    obtain ⟨L, hL⟩ : ∃ L, L = E.map fun t => (t.1, t.2.1) := ⟨_, rfl⟩
    rw [← hL] at hR4
    have HNN : Hid ((L.map (·.1)).Nodup) := Lib.hid (by rw [hL, List.map_map]; have := HP.out.1; rw [← h4, List.map_map] at this; exact this)
    have HNM : Hid (L.map (·.1) = S.map (·.1)) := Lib.hid (by rw [hL, ← h4, List.map_map, List.map_map]; rfl)
    have HEL : Hid (∀ p ∈ L, ∃ x, lookG S p.1 = some x ∧ PVal w1 0 p.2 x ∧ x.ok ∧ p.1 ∉ othL 2) := Lib.hid (by
      intro p hp
      rw [hL] at hp
      obtain ⟨t, ht, rfl⟩ := List.mem_map.1 hp
      have hm : (t.1, t.2.2) ∈ S := by rw [← h4]; exact List.mem_map_of_mem (f := fun t : ByteArray × Value × PV => (t.1, t.2.2)) ht
      exact ⟨t.2.2, lookG_of_mem HP.out.1 hm, h5 t ht, HP.out.2.1 _ hm, HP.out.2.2 _ hm⟩)
    have hb4 : Below w2.heap.size w2 w4 := (Below.refl _ _).grown hg4 (Nat.le_refl _) (by intro j hj; cases hj)
    have HR : Hid (BR S w1 w4 mm w2.heap.size gt L [] []) := Lib.hid ⟨hR4, H2.out.1.below hb4, H2.out.2.trans (hb4.mono H2.out.2.size), (fun n hn => by cases hn), (fun n _ => rfl), (fun n hn => by cases hn)⟩
    have HS2 := Lib.hid H2.out.2.size
    clear h2 h3 h4 h5 hL hR4 hg4 hb4 HV H2
    go_wp2_with fail
    obtain ⟨r, hr⟩ : ∃ r, r = w2.heap.size := ⟨_, rfl⟩
    rw [← hr] at HR HS2 hrng ⊢
    clear hr hrng
    go_loopg [6, 7, 8] (togo L []) (fun q v6 v7 v8 wr => ∃ ds T, q = togo L ds ∧ Hid (BR S w1 wr mm r gt L ds T))
    case atStart => exact ⟨[], [], rfl, HR⟩
    case round =>
      clear HR
      obtain ⟨ds, T, hk, HR⟩ := hrel
      have HKK := Lib.hid hk
      clear hk
      rcases HR.out.rg.next (P := Tryz.prog) 0 HNN.out with ⟨hall, hrun⟩ | ⟨q, hq, hf, w5, hrun, hR5, hg5, hent⟩
      · have HA := Lib.hid hall
        clear hall
        go_wp2
        have hn : ∀ n, n ∈ ds.map (·.1) ↔ n ∈ S.map (·.1) := fun n => by
          rw [← HNM.out]
          constructor
          · intro h
            obtain ⟨p, hp, e⟩ := List.mem_map.1 h
            exact List.mem_map.2 ⟨p, HR.out.rg.sub.1 p hp, e⟩
          · intro h
            obtain ⟨p, hp, e⟩ := List.mem_map.1 h
            exact List.mem_map.2 ⟨p, HA.out p hp, e⟩
        refine bodyPost_ret (v := .tuple #[.iface PT (.pointer (some ⟨gt, 0, none⟩)), .nilIface]) (by kernel_rfl) rfl (.inl ⟨gt, T, rfl, HR.out.hd.low (by have := HSZ.out; have := HB.out.1; omega), fun n => ?_, fun n h => HR.out.al n ((hn n).2 h), HB.out.2.trans (HR.out.bel.mono (by have := HSZ.out; have := HB.out.1; omega))⟩)
        by_cases e : n ∈ ds.map (·.1)
        · exact HR.out.tk n e
        · rw [HR.out.no n e]
          symm
          unfold tkn
          rw [lookG_none.2 (fun h => e ((hn n).2 h))]; rfl
      · obtain ⟨x, hx1, hx2, hx3, hx4⟩ := HEL.out q hq
        have hb5 : Below w1.heap.size w1 w5 := HR.out.bel.grown hg5 HR.out.bel.size (by intro j hj; cases hj; exact HS2.out)
        have hh5 := HR.out.hd.iter HR.out.rg hg5
        have hpv : PVal w5 0 q.2 x := hx2.grown (grown_of_below hb5 (Nat.le_refl _) none) (safe_none w1)
        have hsc := HSE.out w5 gt T w1.heap.size q.1 q.2 x hh5 hx4 hpv hx3 hb5.size
        have HH := Lib.hid (And.intro hR5 (And.intro hb5 (And.intro hh5 (And.intro hq hf))))
        have htk : tkn 2 S q.1 = takeK 2 q.1 x := by unfold tkn; rw [hx1]; rfl
        have HQS : Hid (q.1 ∈ S.map (·.1)) := Lib.hid (by rw [← HNM.out]; exact List.mem_map_of_mem (f := (·.1)) hq)
        have HBW := Lib.hid (show B ≤ w1.heap.size by have := HSZ.out; have := HB.out.1; omega)
        obtain ⟨qn, qv⟩ := q
        unfold SetP at hsc
        cases hy : takeK 2 qn x with
        | some y =>
          simp only [hy] at hsc htk
          have HSC := Lib.hid hsc
          have HTK := Lib.hid htk
          have q1 := nq_1
          clear hx1 hx2 hx3 hx4 hb5 hh5 hpv hsc htk hR5 hg5 hq hf hy
          simp only at hrun hent
          go_wp2_with fail
          refine HSC.out.mono ?_
          rintro e w6 ⟨rfl, hh6, hb6, hk6⟩
          have HR6 := Lib.hid (HR.out.step HH.out.1 HH.out.2.1 HH.out.2.2.1 hmlt hh6 hb6 hk6 HTK.out)
          clear hh6 hb6 hk6 HSC
          go_wp2_with fail
          go_roundg (togo L (ds ++ [(qn, qv)]))
          case measure => rw [HKK.out]; exact togo_less HH.out.2.2.2.1 HH.out.2.2.2.2
          case rel => exact ⟨_, _, rfl, HR6⟩
        | none =>
          simp only [hy] at hsc htk
          have HSC := Lib.hid hsc
          have HTK := Lib.hid htk
          have q2 := nq_2
          have q3 := ng_2
          clear hx1 hx2 hx3 hx4 hb5 hh5 hpv hsc htk hR5 hg5 hq hf hy
          simp only at hrun hent
          go_wp2_with fail
          refine HSC.out.mono ?_
          rintro e w6 ⟨⟨T6, u6, rfl⟩, hh6, hb6, hk6⟩
          have HB6 := Lib.hid (HB.out.2.trans ((HH.out.2.1.trans hb6).mono HBW.out))
          clear hh6 hb6 hk6 HSC
          go_wp2_with fail
          refine (HER.out _ _).mono ?_
          rintro e w7 ⟨⟨T7, u7, rfl⟩, hb7⟩
          have HB7 := Lib.hid (HB6.out.trans (hb7.mono (Nat.le_trans HB.out.1 HB6.out.size)))
          clear hb7
          go_wp2
          exact bodyPost_ret (v := .tuple #[.nilIface, .iface T7 u7]) (by kernel_rfl) rfl (.inr ⟨T7, u7, qn, rfl, HQS.out, HTK.out, HB7.out⟩)
end Go.Proofs.YtapjbdigpleekaaGreat.Mp
