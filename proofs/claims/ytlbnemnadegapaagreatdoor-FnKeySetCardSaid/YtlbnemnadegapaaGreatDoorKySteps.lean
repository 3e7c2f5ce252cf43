/- laws.keySteps. -/
import Derived.Test.YtlbnemnadegapaaGreatDoorKyMv
import Derived.Deep.LoopGhost
import Derived.Deep.RegionHeld3
set_option linter.unusedVariables false
set_option linter.unusedSimpArgs false
namespace Go.Proofs.YtlbnemnadegapaaGreatDoor.Ky
open Go.RowKit Go.Proofs.YtlbnemnadegapaaGreatDoor.K Go.Proofs.YtlbnemnadegapaaGreatDoor.Nm
def mvK (K : Nat) (m : MV) : ST := ⟨m.kind % 6, m.key % (K : Int), m.at_, nmT (m.id % 5), ⟨#[]⟩⟩
theorem four_cells {W : World} {g : Nat} {T : TypeId} {a b c d : Value} (h : Blk W g T #[a, b, c, d]) : W.cell? ⟨g, 0, none⟩ = some a ∧ W.cell? ⟨g, 1, none⟩ = some b ∧ W.cell? ⟨g, 2, none⟩ = some c ∧ W.cell? ⟨g, 3, none⟩ = some d :=
  ⟨by rw [h.cell]; rfl, by rw [h.cell]; rfl, by rw [h.cell]; rfl, by rw [h.cell]; rfl⟩
section
variable {w w' : World} {A : Option Addr} {n : Nat} {ms : List MV}
def stpRel (w : World) (K : Nat) (ms : List MV) (j : Nat) (v : Value) (wr : World) : Prop := wr.ownsRow w.heap.size 41 5 v j (flat sc ((ms.take j).map (mvK K))) ∧ Below w.heap.size w wr
theorem stp_step {w wr W0 w8 : World} {K j : Nat} {ov v' : Value} {s : ST} {temp : Array Value} (H : stpRel w K ms j ov wr) (hb : Below wr.heap.size wr W0) (hjl : j < ms.length) (hs : s = mvK K ms[j])
    (hown : w8.ownsRow w.heap.size 41 5 v' (j + 1) (flat sc ((ms.take j).map (mvK K)) ++ sc s)) (hg : (W0.alloc (.cells temp 41)).grownBy w8 ov.ownBlock) : stpRel w K ms (j + 1) v' w8 := by
  obtain ⟨h1, h5⟩ := H
  have hw : (W0.alloc (.cells temp 41)).ownsRow w.heap.size 41 5 ov j (flat sc ((ms.take j).map (mvK K))) := own_keep h1 (fun j cs hb' => (hb'.below hb hb'.lt).alloc _)
  have hs' := h5.size
  refine ⟨?_, ((h5.trans (hb.mono hs')).alloc (Nat.le_trans hs' hb.size) _).trans (own_low hw hg (by rw [World.size_alloc]; have := hb.size; omega))⟩
  rw [List.take_succ_eq_append_getElem hjl, List.map_append, flat_app, List.map_cons, List.map_nil, ← hs]
  simpa [flat] using hown
set_option maxRecDepth 100000 in
set_option maxHeartbeats 4000000 in
theorem keySteps_calls (w : World) (A : Option Addr) (n c : Nat) (ms : List MV) (h : MVL w A n ms) (hn : n ≤ 1000) (K : Nat) (hK : 0 < K) (hK2 : K ≤ 1000) :
    Calls Tryz.prog 6 #[.slice A n c, .int .i64 (K : Nat)] w fun e w' => ∃ v, e = .returned v ∧ stpRel w K ms n v w' := by
  obtain ⟨i0, hi, hz0, hz1, hz2⟩ := info_parts infoStep
  have HI := Lib.hid (And.intro hi (And.intro hz0 (And.intro hz1 hz2)))
  have HLN := Lib.hid h.len
  have HR := Lib.hid h
  have HB0 := Lib.hid (Below.refl w.heap.size w)
  have hk0 : ¬ K = 0 := by omega
  clear h hi hz0 hz1 hz2 hK hK2
  go_enter Tryz.func6, Tryz.ntmps6
  go_wp2
  go_loopg [10, 5] n (fun q u u5 wr => ∃ (j : Nat) (OA : Option Addr) (Oc : Nat), q + j = n ∧ u = .int .i64 (j : Nat) ∧ u5 = .slice OA j Oc ∧ Hid (stpRel w K ms j u5 wr))
  case atStart => exact ⟨0, none, 0, rfl, rfl, rfl, Lib.hid ⟨World.ownsRow_nil _ _ _ _, HB0.out⟩⟩
  case round =>
    obtain ⟨j, OA, Oc, hqj, rfl, rfl, HH⟩ := hrel
    by_cases hj : j < n
    · have hjl : j < ms.length := by have := HLN.out; omega
      obtain ⟨ad, rfl, c0, c1, c2, c3⟩ := (HR.out.below HH.out.2).at_ hjl
      obtain ⟨m, hm⟩ : ∃ m, m = ms[j] := ⟨_, rfl⟩
      rw [← hm] at c0 c1 c2 c3
      have hok : OKm m := by rw [hm]; exact HR.out.2 _ (List.getElem_mem _)
      obtain ⟨⟨a0, a1⟩, ⟨a2, a3⟩, ⟨a4, a5⟩, a6, a7⟩ := hok
      obtain ⟨i, hi⟩ : ∃ i : Nat, m.id % 5 = (i : Nat) := ⟨(m.id % 5).toNat, by omega⟩
      obtain ⟨kd, hkd⟩ : ∃ kd, kd = m.kind % 6 := ⟨_, rfl⟩
      obtain ⟨ky, hky⟩ : ∃ ky, ky = m.key % (K : Int) := ⟨_, rfl⟩
      have hi5 : i < 5 := by omega
      have hi5' : (i : Int) < 5 := by omega
      have t0 : m.kind.tmod 6 = kd := by rw [hkd]; exact Int.tmod_eq_emod_of_nonneg a0
      have t1 : m.key.tmod (K : Int) = ky := by rw [hky]; exact Int.tmod_eq_emod_of_nonneg a2
      have t3 : m.id.tmod 5 = (i : Nat) := by rw [Int.tmod_eq_emod_of_nonneg a6, hi]
      have e0 : IntKind.i64.wrap kd = kd := wrap_small _ (by omega) (by omega)
      have e1 : IntKind.i64.wrap m.key = m.key := wrap_small _ (by omega) (by omega)
      have e2 : IntKind.i64.wrap m.at_ = m.at_ := by rw [IntKind.wrap_i64]; omega
      have hgi := nmT_at i hi5
      have hgl := nmT_get i
      obtain ⟨nm, hnm⟩ : ∃ nm, nm = nmT (i : Nat) := ⟨_, rfl⟩
      rw [← hnm] at hgi hgl
      have HM := Lib.hid (And.intro hm (And.intro hi (And.intro hkd (And.intro hky hnm))))
      clear hm hi hkd hky hnm a0 a1 a2 a3 a4 a5 a6 a7
      obtain ⟨wv, hwv⟩ : ∃ wv, wv = wr.alloc (.cells #[.int .u8 m.kind, .int .u8 m.key, .int .i8 m.at_, .int .u8 m.id] 44) := ⟨_, rfl⟩
      have HBV := Lib.hid (show Below wr.heap.size wr wv from by rw [hwv]; exact below_alloc' (Below.refl _ _) _)
      have HKD := Lib.hid (show Blk wv.drew wr.heap.size 44 #[.int .u8 m.kind, .int .u8 m.key, .int .i8 m.at_, .int .u8 m.id] from by rw [hwv]; exact Blk.new wr _ _)
      have HK2 := Lib.hid (HKD.out.alloc (.cells #[.string ⟨#[100]⟩, .string ⟨#[97]⟩, .string ⟨#[98]⟩, .string ⟨#[99]⟩, .string ⟨#[101]⟩] 9))
      have HK3 := Lib.hid (HK2.out.alloc (.cells #[.int .i64 kd, .int .i64 ky, .int .i64 m.at_, .string nm, .string ⟨#[]⟩] 41))
      have HB2 := Lib.hid (show Below wr.heap.size wr (wv.drew.alloc (.cells #[.string ⟨#[100]⟩, .string ⟨#[97]⟩, .string ⟨#[98]⟩, .string ⟨#[99]⟩, .string ⟨#[101]⟩] 9)) from HBV.out.drew.alloc HBV.out.drew.size _)
      have HOW := Lib.hid (show ((wv.drew.alloc (.cells #[.string ⟨#[100]⟩, .string ⟨#[97]⟩, .string ⟨#[98]⟩, .string ⟨#[99]⟩, .string ⟨#[101]⟩] 9)).alloc (.cells #[.int .i64 kd, .int .i64 ky, .int .i64 m.at_, .string nm, .string ⟨#[]⟩] 41)).ownsRow w.heap.size 41 5 (.slice OA j Oc) j (flat sc ((ms.take j).map (mvK K))) from own_keep HH.out.1 (fun j cs hb' => (hb'.below HB2.out hb'.lt).alloc _))
      have HRD := Lib.hid (show Reads ((wv.drew.alloc (.cells #[.string ⟨#[100]⟩, .string ⟨#[97]⟩, .string ⟨#[98]⟩, .string ⟨#[99]⟩, .string ⟨#[101]⟩] 9)).alloc (.cells #[.int .i64 kd, .int .i64 ky, .int .i64 m.at_, .string nm, .string ⟨#[]⟩] 41)) 5 (some ⟨wv.heap.size + 1, 0, none⟩) 1 (sc ⟨kd, ky, m.at_, nm, ⟨#[]⟩⟩) from by
        have := Reads.of_own (own_lit (wv.drew.alloc (.cells #[.string ⟨#[100]⟩, .string ⟨#[97]⟩, .string ⟨#[98]⟩, .string ⟨#[99]⟩, .string ⟨#[101]⟩] 9)) 41 5 1 #[.int .i64 kd, .int .i64 ky, .int .i64 m.at_, .string nm, .string ⟨#[]⟩] rfl (by unfold maxLen; omega))
        rw [show (wv.drew.alloc (.cells #[.string ⟨#[100]⟩, .string ⟨#[97]⟩, .string ⟨#[98]⟩, .string ⟨#[99]⟩, .string ⟨#[101]⟩] 9)).heap.size = wv.heap.size + 1 from by simp [World.size_alloc]] at this
        exact this)
      have HSZ := Lib.hid (show w.heap.size ≤ ((wv.drew.alloc (.cells #[.string ⟨#[100]⟩, .string ⟨#[97]⟩, .string ⟨#[98]⟩, .string ⟨#[99]⟩, .string ⟨#[101]⟩] 9)).alloc (.cells #[.int .i64 kd, .int .i64 ky, .int .i64 m.at_, .string nm, .string ⟨#[]⟩] 41)).heap.size from by have h1 := HH.out.2.size; have h2 := HB2.out.size; rw [World.size_alloc]; omega)
      go_upto_region 5 with (fail)
      rw [← hwv]
      clear hwv c0 c1 c2 c3
      refine wp_region_held_drew (S := fun W => W.cell? ⟨wr.heap.size, 0, none⟩ = some (.int .u8 m.kind) ∧ W.cell? ⟨wr.heap.size, 1, none⟩ = some (.int .u8 m.key) ∧ W.cell? ⟨wr.heap.size, 2, none⟩ = some (.int .i8 m.at_) ∧ W.cell? ⟨wr.heap.size, 3, none⟩ = some (.int .u8 m.id)) (by kernel_rfl) (four_cells HKD.out) (fun hH => ?_)
      refine wpAnyH_take (i := 0) (by simp only [List.getElem?_toArray, List.getElem?_cons_succ, List.getElem?_cons_zero]; rfl) (by kernel_rfl) (by kernel_rfl) (by kernel_rfl) (by exact fun _ _ _ h => h) (Or.inl ⟨by rfl, fun W hW => by obtain ⟨s0, s1, s2, s3⟩ := hW; go_simp; rfl⟩) (by assumption) ?_
      simp only [Act.put, List.setIfInBounds_toArray, List.set_cons_zero, List.set_cons_succ]
      refine wpAnyH_take (i := 1) (by simp only [List.getElem?_toArray, List.getElem?_cons_succ, List.getElem?_cons_zero]; rfl) (by kernel_rfl) (by kernel_rfl) (by kernel_rfl) (by exact fun _ _ _ h => h) (Or.inl ⟨by rfl, fun W hW => by obtain ⟨s0, s1, s2, s3⟩ := hW; go_simp; rfl⟩) (by assumption) ?_
      simp only [Act.put, List.setIfInBounds_toArray, List.set_cons_zero, List.set_cons_succ]
      refine wpAnyH_take (i := 2) (by simp only [List.getElem?_toArray, List.getElem?_cons_succ, List.getElem?_cons_zero]; rfl) (by kernel_rfl) (by kernel_rfl) (by kernel_rfl) (by exact fun _ _ _ h => h) (Or.inl ⟨by rfl, fun W hW => by obtain ⟨s0, s1, s2, s3⟩ := hW; go_simp; rfl⟩) (by assumption) ?_
      simp only [Act.put, List.setIfInBounds_toArray, List.set_cons_zero, List.set_cons_succ]
      refine wpAnyH_take (i := 3) (by simp only [List.getElem?_toArray, List.getElem?_cons_succ, List.getElem?_cons_zero]; rfl) (by kernel_rfl) (by kernel_rfl) (by kernel_rfl) (by exact fun _ _ _ h => h) (Or.inl ⟨by rfl, fun W hW => by obtain ⟨s0, s1, s2, s3⟩ := hW; go_simp; rfl⟩) (by assumption) ?_
      simp only [Act.put, List.setIfInBounds_toArray, List.set_cons_zero, List.set_cons_succ]
      refine wpAnyH_take (i := 4) (by simp only [List.getElem?_toArray, List.getElem?_cons_succ, List.getElem?_cons_zero]; rfl) (by kernel_rfl) (by kernel_rfl) (by kernel_rfl) (by exact fun _ _ _ h => h) (Or.inl ⟨by rfl, fun W hW => by obtain ⟨s0, s1, s2, s3⟩ := hW; go_simp; rfl⟩) (by assumption) ?_
      simp only [Act.put, List.setIfInBounds_toArray, List.set_cons_zero, List.set_cons_succ]
      refine wpAnyH_take (i := 5) (by simp only [List.getElem?_toArray, List.getElem?_cons_succ, List.getElem?_cons_zero]; rfl) (by kernel_rfl) (by kernel_rfl) (by kernel_rfl) (by exact fun _ _ _ h => h) (Or.inl ⟨by rfl, fun W hW => by obtain ⟨s0, s1, s2, s3⟩ := hW; go_simp; rfl⟩) (by assumption) ?_
      simp only [Act.put, List.setIfInBounds_toArray, List.set_cons_zero, List.set_cons_succ]
      refine wpAnyH_take (i := 6) (by simp only [List.getElem?_toArray, List.getElem?_cons_succ, List.getElem?_cons_zero]; rfl) (by kernel_rfl) (by kernel_rfl) (by kernel_rfl) (by exact fun _ _ _ h => h) (Or.inl ⟨by rfl, fun W hW => by obtain ⟨s0, s1, s2, s3⟩ := hW; go_simp; rfl⟩) (by assumption) ?_
      simp only [Act.put, List.setIfInBounds_toArray, List.set_cons_zero, List.set_cons_succ]
      refine wpAnyH_take (i := 7) (by simp only [List.getElem?_toArray, List.getElem?_cons_succ, List.getElem?_cons_zero]; rfl) (by kernel_rfl) (by kernel_rfl) (by kernel_rfl) (by exact fun _ _ _ h => h) (Or.inl ⟨by rfl, fun W hW => by obtain ⟨s0, s1, s2, s3⟩ := hW; go_simp; rfl⟩) (by assumption) ?_
      simp only [Act.put, List.setIfInBounds_toArray, List.set_cons_zero, List.set_cons_succ]
      refine wpAnyH_take (i := 8) (by simp only [List.getElem?_toArray, List.getElem?_cons_succ, List.getElem?_cons_zero]; rfl) (by kernel_rfl) (by kernel_rfl) (by kernel_rfl) (by exact fun _ _ _ h => h) (Or.inl ⟨by rfl, fun W hW => by obtain ⟨s0, s1, s2, s3⟩ := hW; go_simp; rfl⟩) (by assumption) ?_
      simp only [Act.put, List.setIfInBounds_toArray, List.set_cons_zero, List.set_cons_succ]
      refine wpAnyH_take (i := 9) (by simp only [List.getElem?_toArray, List.getElem?_cons_succ, List.getElem?_cons_zero]; rfl) (by kernel_rfl) (by kernel_rfl) (by kernel_rfl) (by exact fun _ _ _ h => h) (Or.inl ⟨by rfl, fun W hW => by obtain ⟨s0, s1, s2, s3⟩ := hW; go_simp; rfl⟩) (by assumption) ?_
      simp only [Act.put, List.setIfInBounds_toArray, List.set_cons_zero, List.set_cons_succ]
      refine wpAnyH_take (i := 10) (by simp only [List.getElem?_toArray, List.getElem?_cons_succ, List.getElem?_cons_zero]; rfl) (by kernel_rfl) (by kernel_rfl) (by kernel_rfl) (by exact fun _ _ _ h => h) (Or.inl ⟨by rfl, fun W hW => by obtain ⟨s0, s1, s2, s3⟩ := hW; go_simp; rfl⟩) (by assumption) ?_
      simp only [Act.put, List.setIfInBounds_toArray, List.set_cons_zero, List.set_cons_succ]
      refine wpAnyH_take (i := 11) (by simp only [List.getElem?_toArray, List.getElem?_cons_succ, List.getElem?_cons_zero]; rfl) (by kernel_rfl) (by kernel_rfl) (by kernel_rfl) (by exact fun _ _ _ h => h) (Or.inl ⟨by rfl, fun W hW => by obtain ⟨s0, s1, s2, s3⟩ := hW; go_simp; rfl⟩) (by assumption) ?_
      simp only [Act.put, List.setIfInBounds_toArray, List.set_cons_zero, List.set_cons_succ]
      refine wpAnyH_take (i := 12) (by simp only [List.getElem?_toArray, List.getElem?_cons_succ, List.getElem?_cons_zero]; rfl) (by kernel_rfl) (by kernel_rfl) (by kernel_rfl) (by exact fun _ _ _ h => h) (Or.inl ⟨by rfl, fun W hW => by obtain ⟨s0, s1, s2, s3⟩ := hW; go_simp; rfl⟩) (by assumption) ?_
      simp only [Act.put, List.setIfInBounds_toArray, List.set_cons_zero, List.set_cons_succ]
      refine wpAnyH_take (i := 14) (by simp only [List.getElem?_toArray, List.getElem?_cons_succ, List.getElem?_cons_zero]; rfl) (by kernel_rfl) (by kernel_rfl) (by kernel_rfl) (by exact fun _ _ _ h => h) (Or.inl ⟨by rfl, fun W hW => by obtain ⟨s0, s1, s2, s3⟩ := hW; go_simp; rfl⟩) (by assumption) ?_
      simp only [Act.put, List.setIfInBounds_toArray, List.set_cons_zero, List.set_cons_succ]
      refine wpAnyH_take (i := 15) (by simp only [List.getElem?_toArray, List.getElem?_cons_succ, List.getElem?_cons_zero]; rfl) (by kernel_rfl) (by kernel_rfl) (by kernel_rfl) (by exact fun _ _ _ h => h) (Or.inl ⟨by rfl, fun W hW => by obtain ⟨s0, s1, s2, s3⟩ := hW; go_simp; rfl⟩) (by assumption) ?_
      simp only [Act.put, List.setIfInBounds_toArray, List.set_cons_zero, List.set_cons_succ]
      refine wpAnyH_take (i := 16) (by simp only [List.getElem?_toArray, List.getElem?_cons_succ, List.getElem?_cons_zero]; rfl) (by kernel_rfl) (by kernel_rfl) (by kernel_rfl) (by exact fun _ _ _ h => h) (Or.inl ⟨by rfl, fun W hW => by obtain ⟨s0, s1, s2, s3⟩ := hW; go_simp; rfl⟩) (by assumption) ?_
      simp only [Act.put, List.setIfInBounds_toArray, List.set_cons_zero, List.set_cons_succ]
      refine wpAnyH_ready (rs := [13]) (by kernel_rfl) (by simp) (AllReadyH.cons (by simp only [List.getElem?_toArray, List.getElem?_cons_succ, List.getElem?_cons_zero]; rfl) (fun K1 hK1 => ?_) AllReadyH.nil)
      rw [if_pos (by rfl)]
      go_simp
      refine hK1.out _ _ (four_cells HK2.out) (fun hH2 => ?_)
      refine wpAnyH_take (i := 17) (by simp only [List.getElem?_toArray, List.getElem?_cons_succ, List.getElem?_cons_zero]; rfl) (by kernel_rfl) (by kernel_rfl) (by kernel_rfl) (by exact fun _ _ _ h => h) (Or.inl ⟨by rfl, fun W hW => by obtain ⟨s0, s1, s2, s3⟩ := hW; go_simp; rfl⟩) (by assumption) ?_
      simp only [Act.put, List.setIfInBounds_toArray, List.set_cons_zero, List.set_cons_succ]
      refine wpAnyH_ready (rs := [18]) (by kernel_rfl) (by simp) (AllReadyH.cons (by simp only [List.getElem?_toArray, List.getElem?_cons_succ, List.getElem?_cons_zero]; rfl) (fun K2 hK2 => ?_) AllReadyH.nil)
      rw [if_pos (by rfl)]
      go_simp
      refine hK2.out _ _ (four_cells HK2.out) (fun hH3 => ?_)
      refine wpAnyH_take (i := 19) (by simp only [List.getElem?_toArray, List.getElem?_cons_succ, List.getElem?_cons_zero]; rfl) (by kernel_rfl) (by kernel_rfl) (by kernel_rfl) (by exact fun _ _ _ h => h) (Or.inl ⟨by rfl, fun W hW => by obtain ⟨s0, s1, s2, s3⟩ := hW; go_simp; rfl⟩) (by assumption) ?_
      simp only [Act.put, List.setIfInBounds_toArray, List.set_cons_zero, List.set_cons_succ]
      refine wpAnyH_ready (rs := [20]) (by kernel_rfl) (by simp) (AllReadyH.cons (by simp only [List.getElem?_toArray, List.getElem?_cons_succ, List.getElem?_cons_zero]; rfl) (fun K3 hK3 => ?_) AllReadyH.nil)
      rw [if_pos (by rfl)]
      go_simp
      refine hK3.out _ _ (four_cells HK3.out) (fun hH4 => ?_)
      refine wpAnyH_ready (rs := [21]) (by kernel_rfl) (by simp) (AllReadyH.cons (by simp only [List.getElem?_toArray, List.getElem?_cons_succ, List.getElem?_cons_zero]; rfl) (fun K4 hK4 => ?_) AllReadyH.nil)
      rw [if_pos (by rfl)]
      refine wp_append_any _ _ _ 27 rfl w.heap.size 41 i0 zStep 5 56 Tryz.underlying27 HI.out.1 HI.out.2.1 HI.out.2.2.1 HI.out.2.2.2 rfl (by decide) (.slice OA j Oc) j (flat sc ((ms.take j).map (mvK K))) rfl HOW.out (some ⟨wv.heap.size + 1, 0, none⟩) 1 1 (sc ⟨kd, ky, m.at_, nm, ⟨#[]⟩⟩) rfl HRD.out (sc_one _) (by unfold maxLen; omega) (by omega) HSZ.out ?_
      intro v2 w8 hown hg8 _
      have HK4 := Lib.hid (HK3.out.grown hg8 (own_ne HOW.out HK3.out (by decide)))
      obtain ⟨OA2, Oc2, hv2⟩ := own_slice hown
      subst hv2
      have HF := Lib.hid (stp_step (K := K) HH.out HB2.out hjl (by rw [← HM.out.1]; unfold mvK; rw [HM.out.2.1, ← HM.out.2.2.1, ← HM.out.2.2.2.1, ← HM.out.2.2.2.2]) hown hg8)
      clear hown hg8
      refine hK4.out _ _ (four_cells HK4.out) (fun hH5 => ?_)
      refine wpAnyH_take (i := 22) (by simp only [List.getElem?_toArray, List.getElem?_cons_succ, List.getElem?_cons_zero]; rfl) (by kernel_rfl) (by kernel_rfl) (by kernel_rfl) (by exact fun _ _ _ h => h) (Or.inl ⟨by rfl, fun W hW => by obtain ⟨s0, s1, s2, s3⟩ := hW; go_simp; rfl⟩) (by assumption) ?_
      simp only [Act.put, List.setIfInBounds_toArray, List.set_cons_zero, List.set_cons_succ]
      refine wpAnyH_done (by kernel_rfl) ?_ _
      go_wp2_with fail
      go_roundg (n - (j + 1))
      case measure => omega
      case rel => exact ⟨j + 1, OA2, Oc2, by omega, by go_num, rfl, HF⟩
    · have hlt : ¬ (j : Int) < (n : Int) := by omega
      go_wp2_with fail
      go_ret
      have hjn : j = n := by omega
      subst hjn
      exact ⟨_, rfl, HH.out⟩
end
end Go.Proofs.YtlbnemnadegapaaGreatDoor.Ky
