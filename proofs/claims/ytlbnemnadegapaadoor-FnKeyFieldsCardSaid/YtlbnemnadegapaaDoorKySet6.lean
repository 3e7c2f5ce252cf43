/- Walks of maps.Copy over maps with texts as keys, and of a key set's Clone; the conditions are on what lies in memory. -/
import Derived.Test.YtlbnemnadegapaaDoorKySet5
set_option linter.unusedVariables false
set_option linter.unusedSimpArgs false
namespace Go.Proofs.YtlbnemnadegapaaDoor.Nm
open Go.RowKit Go.Proofs.YtlbnemnadegapaaDoor.K
theorem MapN.grown {Q : ByteArray → Prop} {w w' : World} {m : Nat} {r : Option Nat} (h : MapN Q w m) (hg : w.grownBy w' r) (hne : some m ≠ r) : MapN Q w' m := by
  obtain ⟨L, h1, h2⟩ := h
  exact ⟨L, h1.grown hg hne, h2⟩
theorem MapN.ne_blk {Q : ByteArray → Prop} {w : World} {m g : Nat} {T : TypeId} {cs : Array Value} (h : MapN Q w m) (hb : Blk w g T cs) : g ≠ m := by
  obtain ⟨L, h, _⟩ := h
  exact h.ne hb
theorem MapL.nodup {w : World} {m : Nat} {L : List (ByteArray × Value)} (h : MapL w m L) : (L.map (·.1)).Nodup := by
  obtain ⟨es, c, hb, hs, hl⟩ := h
  have hk := hs.2.2
  have e3 : es.toList.map (·.key) = L.map (fun p => Value.string p.1) := by
    have := congrArg (List.map Prod.fst) hl
    simpa [List.map_map, Function.comp_def, pr] using this
  rw [e3, List.nodup_iff_pairwise_ne, List.pairwise_map] at hk
  rw [List.nodup_iff_pairwise_ne, List.pairwise_map]
  exact hk.imp (fun hne e => hne (by rw [e]))
theorem RangL.mapL {W : World} {m r : Nat} {L ds : List (ByteArray × Value)} (h : RangL W m r L ds) : MapL W m L := by
  obtain ⟨es, c, s, seen, c0, a1, a2, a3, _⟩ := h
  exact ⟨es, c, a1, a2, a3⟩
end Go.Proofs.YtlbnemnadegapaaDoor.Nm
namespace Go.Proofs.YtlbnemnadegapaaDoor.Ky
open Go.RowKit Go.Proofs.YtlbnemnadegapaaDoor.K Go.Proofs.YtlbnemnadegapaaDoor.Nm
theorem grown_new {w wr w' : World} {row : Option Nat} (h : w.grownBy wr row) {r : Nat} (hr : w.heap.size ≤ r) (hg : wr.grownBy w' (some r)) : w.grownBy w' row :=
  ⟨hg.os.trans h.os, hg.tape.trans h.tape, hg.output.trans h.output, Nat.le_trans h.size hg.size, fun k hk hne => (hg.block k (Nat.lt_of_lt_of_le hk h.size) (by intro e; injection e with e; omega)).trans (h.block k hk hne)⟩
section
variable {Q : ByteArray → Prop} {base g : Nat} {w w' : World} {S : List Nat}
set_option maxRecDepth 100000 in
set_option maxHeartbeats 2000000 in
theorem Copy_calls (m1 m2 : Nat) (h1 : MapN Q w m1) (h2 : MapN Q w m2) (hne : m1 ≠ m2) :
    Calls Tryd.prog 135 #[.map (some m2), .map (some m1)] w fun e w' => e = .returned (.tuple #[]) ∧ MapN Q w' m2 ∧ w.grownBy w' (some m2) := by
  obtain ⟨L, hL, hq⟩ := h1
  have hnd := hL.nodup
  have hm2 := h2.lt
  obtain ⟨w1, hrng, hR, hg1, hs1⟩ := run_range (P := Tryd.prog) (mty := 139) Tryd.underlying139 w m1 L hL
  have HR := Lib.hid hR
  have HM := Lib.hid (h2.grown hg1 (by simp))
  have HG := Lib.hid (show w.grownBy w1 (some m2) from ⟨hg1.os, hg1.tape, hg1.output, hg1.size, fun k hk _ => hg1.block k hk (by simp)⟩)
  have HQ := Lib.hid (And.intro hq hnd)
  obtain ⟨r, hr⟩ : ∃ r, r = w.heap.size := ⟨_, rfl⟩
  rw [← hr] at hrng HR
  have hrs : w.heap.size ≤ r := by omega
  have hrm : r ≠ m2 := by omega
  clear hL hq hnd hR hg1 hs1 h2 hr
  go_enter Tryd.func135, Tryd.ntmps135
  go_wp2_with fail
  clear hrng
  go_loopg [] (togo L []) (fun k wr => ∃ ds, k = togo L ds ∧ Hid (RangL wr m1 r L ds) ∧ Hid (MapN Q wr m2) ∧ Hid (w.grownBy wr (some m2)))
  case atStart => exact ⟨[], rfl, HR, HM, HG⟩
  case round =>
    clear HR HM HG
    obtain ⟨ds, hk, HR, HM, HG⟩ := hrel
    have HKK := Lib.hid hk
    clear hk
    rcases HR.out.next (P := Tryd.prog) 0 HQ.out.2 with ⟨hall, hrun⟩ | ⟨p, hp, hf, w5, hrun, hR5, hg5, hent⟩
    · clear hall
      go_wp2
      go_end0
      exact ⟨rfl, HM.out, HG.out⟩
    · obtain ⟨s, u⟩ := p
      obtain ⟨w6, hput, hM6, hg6⟩ := run_put (P := Tryd.prog) (mty := 139) Tryd.underlying139 Tryd.underlying9 (HM.out.grown hg5 (by intro e; injection e with e; exact hrm e.symm)) s u (HQ.out.1 _ hp)
      have HR6 := Lib.hid (hR5.grown hg6 (by intro e; injection e with e; exact hne e) (by intro e; injection e with e; exact hrm e))
      have HM6 := Lib.hid hM6
      have HG6 := Lib.hid (grown_trans (grown_new HG.out hrs hg5) hg6)
      have HTL := Lib.hid (togo_less hp hf)
      clear hp hf hR5 hg5 hM6 hg6
      simp only at hrun hent
      go_wp2_with fail
      go_roundg (togo L (ds ++ [(s, u)]))
      case measure => have := HTL.out; have := HKK.out; omega
      case rel => exact ⟨_, rfl, HR6, HM6, HG6⟩
theorem KL.reads {E : TypeId} {A : Option Addr} {n c : Nat} {xs : List Value} (h : KL w base E (.slice A n c) xs) : Reads w 1 A n xs ∧ n = xs.length ∧ n ≤ c := by
  obtain ⟨A', c', he, h2, h3, h4⟩ := h
  injection he with e1 e2 e3
  subst e1
  subst e2
  subst e3
  refine ⟨⟨by simp, fun hn => ?_⟩, rfl, h2⟩
  rcases h4 with ⟨_, h0⟩ | ⟨g, off, cs, rfl, a2, a3, a4, a5⟩
  · omega
  · refine ⟨_, rfl, a3.lt, fun j u hu => ?_⟩
    have hj : j < xs.length := by
      rcases Nat.lt_or_ge j xs.length with h | h
      · exact h
      · rw [List.getElem?_eq_none h] at hu; cases hu
    rw [add_at, a3.cell, a5 j hj]
    rw [List.getElem?_eq_getElem hj] at hu
    exact hu
theorem info_key1 : (Tryd.prog.info? 87).map (·.size) = some 1 := by kernel_rfl
set_option maxRecDepth 100000 in
set_option maxHeartbeats 4000000 in
theorem Clone_calls (h : SetAt Q base w g S) (hn : S.length < 500) (hbase : base ≤ w.heap.size) :
    Calls Tryd.prog 124 #[.pointer (some ⟨g, 0, none⟩)] w fun e w' => ∃ g2, e = .returned (.tuple #[.iface 137 (.pointer (some ⟨g2, 0, none⟩)), .nilIface]) ∧ SetAt Q base w' g2 S ∧ Below w.heap.size w w' := by
  obtain ⟨i0, hi, hz0, hz1, hz2⟩ := info_parts infoKey
  have HI := Lib.hid (And.intro hi (And.intro hz0 (And.intro hz1 hz2)))
  have HN := Lib.hid (newSet_calls Q w)
  have HSA := Lib.hid h
  clear hi hz0 hz1 hz2
  go_enter Tryd.func124, Tryd.ntmps124
  go_wp2_with fail
  refine HN.out.mono ?_
  rintro e w1 ⟨g2, rfl, hs2, hb1⟩
  obtain ⟨v, m, hK, hM, hbg, hbm⟩ := h.below hb1
  obtain ⟨v2, m2, hK2, hM2, hbg2, hbm2⟩ := hs2
  have hmlt : m < w.heap.size := by
    obtain ⟨v', m', hK', hM', _⟩ := HSA.out
    have h1 := hK'.1.below hb1 hK'.1.lt
    have h2 := hK.1
    unfold Blk at h1 h2
    rw [h1] at h2
    injection h2 with h2
    injection h2 with h2
    have h3 := congrArg (fun a => a[1]?) h2
    simp at h3
    rw [← h3]
    exact hM'.lt
  have hglt : g < w.heap.size := by obtain ⟨v', m', hK', _⟩ := HSA.out; exact hK'.1.lt
  obtain ⟨A, c, rfl, hlc, _⟩ := hK.2.len
  have hln : (S.map keyV).length = S.length := by simp
  obtain ⟨n, hn2⟩ : ∃ n, n = (S.map keyV).length := ⟨_, rfl⟩
  rw [← hn2] at hK hlc
  have hn5 : n < 500 := by omega
  obtain ⟨c0, c1⟩ := hK.cells
  have HK := Lib.hid hK
  have HK2 := Lib.hid hK2
  have HM := Lib.hid (And.intro hM hM2)
  have HB := Lib.hid hb1
  have HX := Lib.hid (And.intro hbg2 (And.intro hbm2 hn2))
  clear hK hK2 hM hM2 hb1 hbg2 hbm2 hn2 HN h hln
  go_wp2_with (at_make; refine wpList_make_blk rfl _ _ 84 rfl 87 i0 .nilIface Tryd.underlying84 HI.out.1 HI.out.2.1 HI.out.2.2.1 rfl .i64 .i64 _ _ n rfl rfl rfl rfl (by rw [HI.out.2.2.2]; omega) (by unfold maxLen; omega) ?_; intro w2 hb2 hB2 hs2; have HB2 := Lib.hid (And.intro hb2 hB2); have k0 : w2.cell? ⟨g2, 0, none⟩ = some v2 := (hB2.cell HK2.out.1.lt).trans HK2.out.cells.1; have k1 := (HK2.out.1.below hB2 HK2.out.1.lt).frozen 0; have HS2 := Lib.hid hs2; clear hb2 hB2 hs2)
  obtain ⟨w3, hw3⟩ : ∃ w3, w3 = w2.setCell ⟨g2, 0, none⟩ (.slice (some ⟨w1.heap.size, 0, none⟩) n n) := ⟨_, rfl⟩
  have hg21 : g2 < w1.heap.size := HK2.out.1.lt
  have hwg2 : w.heap.size ≤ g2 := HX.out.1
  have hb3 : Below w.heap.size w w3 := by rw [hw3]; exact ((HB.out.trans (HB2.out.2.mono HB.out.size))).setCell (by show w.heap.size ≤ g2; exact hwg2) _
  have hs3 : w3.heap.size = w1.heap.size + 1 := by rw [hw3]; simp [World.setCell, HS2.out]
  have kb2 : Blk w3 g2 153 #[.slice (some ⟨w1.heap.size, 0, none⟩) n n, .map (some m2)] := by rw [hw3]; exact (HK2.out.1.below HB2.out.2 hg21).set_ 0 _
  have kb1 : Blk w3 g 153 #[.slice A n c, .map (some m)] := by rw [hw3]; exact (HK.out.1.below HB2.out.2 HK.out.1.lt).far (p := ⟨g2, 0, none⟩) (by show g ≠ g2; omega) _
  have kr : Blk w3 w1.heap.size 87 (List.replicate n Value.nilIface).toArray := by
    rw [hw3]
    have h1 := HB2.out.1.far (p := ⟨g2, 0, none⟩) (by show w1.heap.size ≠ g2; omega) (.slice (some ⟨w1.heap.size, 0, none⟩) n n)
    rwa [← List.toArray_replicate] at h1
  have kl : KL w3 base 87 (.slice A n c) (S.map keyV) := by rw [hw3]; exact (HK.out.2.below HB2.out.2).setCell (HK2.out.1.below HB2.out.2 hg21) (by decide) _
  have km : MapN Q w3 m := (HM.out.1.fr (Fr.of_below (bad := badSK) HB2.out.2)).fr (by rw [hw3]; exact Fr.setCell (bad := badSK) (HK2.out.1.below HB2.out.2 hg21) (.inl rfl) _)
  have km2 : MapN Q w3 m2 := (HM.out.2.fr (Fr.of_below (bad := badSK) HB2.out.2)).fr (by rw [hw3]; exact Fr.setCell (bad := badSK) (HK2.out.1.below HB2.out.2 hg21) (.inl rfl) _)
  rw [← hw3]
  obtain ⟨hrd, hnl, hnc⟩ := kl.reads
  have d0 : w3.cell? ⟨g, 0, none⟩ = some (.slice A n c) := by rw [kb1.cell]; rfl
  have d1 : w3.cell? ⟨g2, 0, none⟩ = some (.slice (some ⟨w1.heap.size, 0, none⟩) n n) := by rw [kb2.cell]; rfl
  have HRD := Lib.hid (show Reads w3.drew 1 A n (S.map keyV) from hrd)
  have HKB := Lib.hid (And.intro kb1 (And.intro kb2 (And.intro kr (And.intro km km2))))
  have HB3 := Lib.hid (And.intro hb3 (And.intro hs3 hnl))
  have hone : ∀ u ∈ S.map keyV, u.oneCell' = true := by intro u hu; obtain ⟨y, _, rfl⟩ := List.mem_map.1 hu; rfl
  have HONE := Lib.hid hone
  have hsp : splice (List.replicate n Value.nilIface) 0 ((S.map keyV).take n) = S.map keyV := by
    have hnS : n = S.length := by rw [hnl]; simp
    rw [List.take_of_length_le (by omega)]
    unfold splice
    simp [hnS]
  have HSP := Lib.hid hsp
  clear c0 c1 k0 k1 hb3 hs3 kb2 kb1 kr kl km km2 hrd hnl hw3 hone hsp HB2 HS2
  go_still_tail 8, (by kernel_rfl)
  change wpList _ _ _ _ _ w3.drew
  go_wp2_with (refine wpList_copy_only rfl _ _ _ _ rfl 87 Tryd.underlying84 info_key1 (some ⟨w1.heap.size, 0, none⟩) A n n n c rfl rfl w1.heap.size 0 (List.replicate n Value.nilIface) 87 HKB.out.2.2.1 (S.map keyV) HRD.out (fun _ => rfl) (by simp) HONE.out (S.map keyV) HSP.out ?_; intro w4 hb4 hg4 hs4; have HB4 := Lib.hid (And.intro hb4 (And.intro hg4 hs4)); clear hb4 hg4 hs4)
  go_frame
  have hgw : w3.grownBy w4 (some w1.heap.size) := ⟨HB4.out.2.1.os, HB4.out.2.1.tape, HB4.out.2.1.output, HB4.out.2.1.size, HB4.out.2.1.block⟩
  have HGW := Lib.hid hgw
  have e1 : w4.cell? ⟨g2, 1, none⟩ = some (.map (some m2)) := by rw [(HKB.out.2.1.grown hgw (by intro e; injection e with e; omega)).cell]; rfl
  have e0 : w4.cell? ⟨g, 1, none⟩ = some (.map (some m)) := by rw [(HKB.out.1.grown hgw (by intro e; injection e with e; omega)).cell]; rfl
  have hrm : m ≠ w1.heap.size := by have := HB.out.size; omega
  have hrm2 : m2 ≠ w1.heap.size := by
    rintro rfl
    obtain ⟨L, ⟨es, cc, a1, _⟩, _⟩ := HKB.out.2.2.2.2
    have := HKB.out.2.2.1
    unfold Blk at this
    rw [this] at a1
    cases a1
  have HC := Lib.hid (Copy_calls (w := w4.drew) m m2 (((HKB.out.2.2.2.1.grown hgw (by intro e; injection e with e; exact hrm e)).fr (Fr.refl (bad := badSK) w4).drew)) (((HKB.out.2.2.2.2.grown hgw (by intro e; injection e with e; exact hrm2 e)).fr (Fr.refl (bad := badSK) w4).drew)) (by have := HX.out.2.1; omega))
  clear hgw d0 d1 hrm hrm2
  go_still_tail 8, (by kernel_rfl)
  change wpList _ _ _ _ _ w4.drew
  go_wp2_with fail
  refine HC.out.mono ?_
  rintro e w5 ⟨rfl, hM5, hg5⟩
  have HM5 := Lib.hid (And.intro hM5 hg5)
  clear hM5 hg5 HC
  go_wp2
  refine bodyPost_ret (v := .tuple #[.iface 137 (.pointer (some ⟨g2, 0, none⟩)), .nilIface]) (by kernel_rfl) rfl ⟨g2, rfl, ?_, ?_⟩
  · have n1 : g2 ≠ m2 := MapN.ne_blk HKB.out.2.2.2.2 HKB.out.2.1
    have n2 : w1.heap.size ≠ m2 := MapN.ne_blk HKB.out.2.2.2.2 HKB.out.2.2.1
    have hsz := HB.out.size
    have b4 := HKB.out.2.1.grown HGW.out (by intro e; injection e with e; omega)
    refine ⟨_, m2, ⟨(show Blk w4.drew g2 _ _ from b4).grown HM5.out.2 (by intro e; injection e with e; exact n1 e), ?_⟩, HM5.out.1, by omega, by have := HX.out.2.1; omega⟩
    refine ⟨some ⟨w1.heap.size, 0, none⟩, n, by rw [← HB3.out.2.2], by rw [← HB3.out.2.2]; exact Nat.le_refl _, by unfold maxLen; omega, .inr ⟨w1.heap.size, 0, (S.map keyV).toArray, rfl, by omega, (show Blk w4.drew w1.heap.size _ _ from HB4.out.1).grown HM5.out.2 (by intro e; injection e with e; exact n2 e), by rw [List.size_toArray, ← HB3.out.2.2]; omega, fun j hj => ?_⟩⟩
    rw [Nat.zero_add, List.getElem?_toArray, List.getElem?_eq_getElem hj]
  · have hsz := HB.out.size
    have h4 : Below w.heap.size w w4 := HB3.out.1.trans (below_of_grown HGW.out (by omega) HB3.out.1.size)
    exact h4.drew.trans (below_of_grown HM5.out.2 HX.out.2.1 (show w.heap.size ≤ w4.drew.heap.size from h4.size))
end
end Go.Proofs.YtlbnemnadegapaaDoor.Ky
