/- laws.setMoves. -/
import Derived.Test.YtlbnemnadegapaaDoorKyData
import Derived.Deep.LoopGhost
import Derived.BigRegion
set_option linter.unusedVariables false
set_option linter.unusedSimpArgs false
namespace Go.Proofs.YtlbnemnadegapaaDoor.Ky
open Go.RowKit Go.Proofs.YtlbnemnadegapaaDoor.K Go.Proofs.YtlbnemnadegapaaDoor.Nm
structure MV where
  kind : Int
  key : Int
  at_ : Int
  id : Int
def mc (m : MV) : List Value := [.int .u8 m.kind, .int .u8 m.key, .int .i8 m.at_, .int .u8 m.id]
theorem mc_len (m : MV) : (mc m).length = 4 := rfl
def OKm (m : MV) : Prop := (0 ≤ m.kind ∧ m.kind < 256) ∧ (0 ≤ m.key ∧ m.key < 256) ∧ (-128 ≤ m.at_ ∧ m.at_ < 128) ∧ (0 ≤ m.id ∧ m.id < 256)
/-- Moves in memory. -/
def MVL (w : World) (A : Option Addr) (n : Nat) (ms : List MV) : Prop := Reads w 4 A n (flat mc ms) ∧ ∀ m ∈ ms, OKm m
def nmT (k : Int) : ByteArray := if k = 0 then ⟨#[100]⟩ else if k = 1 then ⟨#[97]⟩ else if k = 2 then ⟨#[98]⟩ else if k = 3 then ⟨#[99]⟩ else ⟨#[101]⟩
theorem nmT_at (i : Nat) (h : i < 5) : (#[.string ⟨#[100]⟩, .string ⟨#[97]⟩, .string ⟨#[98]⟩, .string ⟨#[99]⟩, .string ⟨#[101]⟩] : Array Value)[i]? = some (.string (nmT (i : Nat))) := by
  match i, h with
  | 0, _ => rfl
  | 1, _ => rfl
  | 2, _ => rfl
  | 3, _ => rfl
  | 4, _ => rfl
theorem blk_at {W : World} {b : Nat} (hb : W.heap.size = b) (T : TypeId) (cs : Array Value) : Blk (W.alloc (.cells cs T)).drew b T cs := by subst hb; exact Blk.new W T cs
theorem blk_at2 {W : World} {b : Nat} (hb : W.heap.size = b) (T : TypeId) (cs : Array Value) (o : Obj) : Blk ((W.alloc (.cells cs T)).alloc o).drew b T cs := by subst hb; exact (Blk.new W T cs).alloc o
theorem nmT_size (k : Int) : (nmT k).size = 1 := by unfold nmT; split <;> (try split) <;> (try split) <;> (try split) <;> rfl
theorem nmT_get (i : Nat) (h : i < ([.string ⟨#[100]⟩, .string ⟨#[97]⟩, .string ⟨#[98]⟩, .string ⟨#[99]⟩, .string ⟨#[101]⟩] : List Value).length) : ([.string ⟨#[100]⟩, .string ⟨#[97]⟩, .string ⟨#[98]⟩, .string ⟨#[99]⟩, .string ⟨#[101]⟩] : List Value)[i] = .string (nmT (i : Nat)) := by
  match i, h with
  | 0, _ => rfl
  | 1, _ => rfl
  | 2, _ => rfl
  | 3, _ => rfl
  | 4, _ => rfl
def mvS (K : Nat) (m : MV) : ST := ⟨m.kind % 9, m.key % (K : Int), m.at_, if 6 < m.kind % 9 then ⟨#[112]⟩ ++ nmT (m.id % 5) else nmT (m.id % 5), ⟨#[116]⟩⟩
def zStep : Value := .agg #[.int .i64 0, .int .i64 0, .int .i64 0, .string ByteArray.empty, .string ByteArray.empty]
theorem infoStep : (Tryd.prog.info? 56).map (fun i => (i.zero, i.size, i.bytes)) = some (some zStep, 5, 56) := by kernel_rfl
theorem sc_one (s : ST) : ∀ u ∈ sc s, u.oneCell' = true := by
  intro u hu
  simp only [sc, List.mem_cons, List.not_mem_nil, or_false] at hu
  rcases hu with rfl | rfl | rfl | rfl | rfl <;> rfl
section
variable {w w' : World} {A : Option Addr} {n : Nat} {ms : List MV}
theorem MVL.len (h : MVL w A n ms) : n = ms.length := by have := h.1.1; rw [flat_len mc_len] at this; omega
theorem MVL.below (h : MVL w A n ms) (hb : Below w.heap.size w w') : MVL w' A n ms := ⟨Reads.below h.1 hb (Nat.le_refl _), h.2⟩
theorem MVL.at_ {j : Nat} (h : MVL w A n ms) (hj : j < ms.length) :
    ∃ ad, A = some ad ∧ w.cell? (ad.add (j * 4)) = some (.int .u8 ms[j].kind) ∧ w.cell? ⟨(ad.add (j * 4)).block, (ad.add (j * 4)).off + 1, none⟩ = some (.int .u8 ms[j].key) ∧ w.cell? ⟨(ad.add (j * 4)).block, (ad.add (j * 4)).off + 2, none⟩ = some (.int .i8 ms[j].at_) ∧
      w.cell? ⟨(ad.add (j * 4)).block, (ad.add (j * 4)).off + 3, none⟩ = some (.int .u8 ms[j].id) := by
  have hn := h.len
  obtain ⟨ad, rfl, _, hc⟩ := h.1.2 (by omega)
  have g : ∀ i, i < 4 → (flat mc ms)[j * 4 + i]? = (mc ms[j])[i]? := fun i hi => flat_at mc_len ms j i hj hi
  exact ⟨ad, rfl, hc (j * 4) _ (by have := g 0 (by decide); simpa [mc] using this), cell_next (hc (j * 4 + 1) _ (by rw [g 1 (by decide)]; rfl)), cell_next (hc (j * 4 + 2) _ (by rw [g 2 (by decide)]; rfl)), cell_next (hc (j * 4 + 3) _ (by rw [g 3 (by decide)]; rfl))⟩
def movRel (w : World) (K : Nat) (ms : List MV) (j : Nat) (v : Value) (wr : World) : Prop := wr.ownsRow w.heap.size 56 5 v j (flat sc ((ms.take j).map (mvS K))) ∧ Below w.heap.size w wr
theorem mov_step {w wr W0 w8 : World} {K j : Nat} {ov v' : Value} {s : ST} {temp : Array Value} (H : movRel w K ms j ov wr) (hb : Below wr.heap.size wr W0) (hjl : j < ms.length) (hs : s = mvS K ms[j])
    (hown : w8.ownsRow w.heap.size 56 5 v' (j + 1) (flat sc ((ms.take j).map (mvS K)) ++ sc s)) (hg : (W0.alloc (.cells temp 56)).grownBy w8 ov.ownBlock) : movRel w K ms (j + 1) v' w8 := by
  obtain ⟨h1, h5⟩ := H
  have hw : (W0.alloc (.cells temp 56)).ownsRow w.heap.size 56 5 ov j (flat sc ((ms.take j).map (mvS K))) := own_keep h1 (fun j cs hb' => (hb'.below hb hb'.lt).alloc _)
  have hs' := h5.size
  refine ⟨?_, ((h5.trans (hb.mono hs')).alloc (Nat.le_trans hs' hb.size) _).trans (own_low hw hg (by rw [World.size_alloc]; have := hb.size; omega))⟩
  rw [List.take_succ_eq_append_getElem hjl, List.map_append, flat_app, List.map_cons, List.map_nil, ← hs]
  simpa [flat] using hown
set_option maxRecDepth 100000 in
set_option maxHeartbeats 4000000 in
theorem setMoves_calls (w : World) (A : Option Addr) (n c : Nat) (ms : List MV) (h : MVL w A n ms) (hn : n ≤ 1000) (K : Nat) (hK : 0 < K) (hK2 : K ≤ 1000) :
    Calls Tryd.prog 23 #[.slice A n c, .int .i64 (K : Nat)] w fun e w' => ∃ v, e = .returned v ∧ movRel w K ms n v w' := by
  obtain ⟨i0, hi, hz0, hz1, hz2⟩ := info_parts infoStep
  have HI := Lib.hid (And.intro hi (And.intro hz0 (And.intro hz1 hz2)))
  have HLN := Lib.hid h.len
  have HR := Lib.hid h
  have HB0 := Lib.hid (Below.refl w.heap.size w)
  have hk0 : ¬ K = 0 := by omega
  clear h hi hz0 hz1 hz2 hK hK2
  go_enter Tryd.func23, Tryd.ntmps23
  go_wp2
  go_loopg [11, 5] n (fun q u u5 wr => ∃ (j : Nat) (OA : Option Addr) (Oc : Nat), q + j = n ∧ u = .int .i64 (j : Nat) ∧ u5 = .slice OA j Oc ∧ Hid (movRel w K ms j u5 wr))
  case atStart => exact ⟨0, none, 0, rfl, rfl, rfl, Lib.hid ⟨World.ownsRow_nil _ _ _ _, HB0.out⟩⟩
  case round =>
    obtain ⟨j, OA, Oc, hqj, rfl, rfl, HH⟩ := hrel
    by_cases hj : j < n
    · have hjl : j < ms.length := by have := HLN.out; omega
      obtain ⟨ad, rfl, c0, c1, c2, c3⟩ := (HR.out.below HH.out.2).at_ hjl
      obtain ⟨m, hm⟩ : ∃ m, m = ms[j] := ⟨_, rfl⟩
      rw [← hm] at c0 c1 c2 c3
      have hok : OKm m := by rw [hm]; exact HR.out.2 _ (List.getElem_mem _)
      obtain ⟨⟨a0, a1⟩, ⟨a2, a3⟩, ⟨a4, a5⟩, a6, a7⟩ := hok
      obtain ⟨i, hi⟩ : ∃ i : Nat, m.id % 5 = (i : Nat) := ⟨(m.id % 5).toNat, by omega⟩
      obtain ⟨kd, hkd⟩ : ∃ kd, kd = m.kind % 9 := ⟨_, rfl⟩
      obtain ⟨ky, hky⟩ : ∃ ky, ky = m.key % (K : Int) := ⟨_, rfl⟩
      have hi5 : i < 5 := by omega
      have hi5' : (i : Int) < 5 := by omega
      have t0 : m.kind.tmod 9 = kd := by rw [hkd]; exact Int.tmod_eq_emod_of_nonneg a0
      have t1 : m.key.tmod (K : Int) = ky := by rw [hky]; exact Int.tmod_eq_emod_of_nonneg a2
      have t3 : m.id.tmod 5 = (i : Nat) := by rw [Int.tmod_eq_emod_of_nonneg a6, hi]
      have e0 : IntKind.i64.wrap kd = kd := wrap_small _ (by omega) (by omega)
      have e1 : IntKind.i64.wrap m.key = m.key := wrap_small _ (by omega) (by omega)
      have e2 : IntKind.i64.wrap m.at_ = m.at_ := by rw [IntKind.wrap_i64]; omega
      have hgi := nmT_at i hi5
      have hgl := nmT_get i
      obtain ⟨nm, hnm⟩ : ∃ nm, nm = nmT (i : Nat) := ⟨_, rfl⟩
      rw [← hnm] at hgi hgl
      have hns : nm.size = 1 := by rw [hnm]; exact nmT_size _
      have HM := Lib.hid (And.intro hm (And.intro hi (And.intro hkd (And.intro hky hnm))))
      clear hm hi hkd hky hnm a0 a1 a2 a3 a4 a5 a6 a7
      go_upto_region 5 with (fail)
      go_cut [8] from 15 to 45 (fun u wc => ∃ b, u = .pointer (some ⟨b, 0, none⟩) ∧ Hid (wr.heap.size ≤ b ∧ Blk wc b 56 #[.int .i64 kd, .int .i64 ky, .int .i64 m.at_, .string nm, .string ⟨#[116]⟩] ∧ Below wr.heap.size wr wc))
      case first =>
        go_wp2_with fail
        go_region
        all_goals
          go_wp2_with fail
          go_meet
        · exact ⟨_, rfl, Lib.hid ⟨by omega, blk_at (by simp [World.size_alloc]) _ _, (below_alloc' (below_alloc' (below_alloc' (Below.refl _ _) _) _) _).drew⟩⟩
        · exact ⟨_, rfl, Lib.hid ⟨by omega, blk_at2 (by simp [World.size_alloc]) _ _ _, (below_alloc' (below_alloc' (below_alloc' (Below.refl _ _) _) _) _).drew⟩⟩
      case rest =>
        obtain ⟨b, rfl, HC⟩ := hcut
        clear hgi hgl c0 c1 c2 c3 t0 t1 t3
        have s0 : wc.cell? ⟨b, 0, none⟩ = some (.int .i64 kd) := by rw [HC.out.2.1.cell]; rfl
        have s1 : wc.cell? ⟨b, 1, none⟩ = some (.int .i64 ky) := by rw [HC.out.2.1.cell]; rfl
        have s2 : wc.cell? ⟨b, 2, none⟩ = some (.int .i64 m.at_) := by rw [HC.out.2.1.cell]; rfl
        have s3 : wc.cell? ⟨b, 3, none⟩ = some (.string nm) := by rw [HC.out.2.1.cell]; rfl
        have s4 : wc.cell? ⟨b, 4, none⟩ = some (.string ⟨#[116]⟩) := by rw [HC.out.2.1.cell]; rfl
        have s3f := HC.out.2.1.frozen 3
        by_cases hlt : 6 < kd
        · have HLT := Lib.hid hlt
          have HWB := Lib.hid (show Below wr.heap.size wr (wc.setCell ⟨b, 3, none⟩ (.string (⟨#[112]⟩ ++ nm))) from HC.out.2.2.setCell (by show wr.heap.size ≤ b; exact HC.out.1) (.string (⟨#[112]⟩ ++ nm)))
          have hsz : (wc.setCell ⟨b, 3, none⟩ (.string (⟨#[112]⟩ ++ nm))).heap.size = wc.heap.size := by simp [World.size_setCell]
          have HOW := Lib.hid (show (World.alloc (wc.setCell ⟨b, 3, none⟩ (.string (⟨#[112]⟩ ++ nm))) (.cells #[.int .i64 kd, .int .i64 ky, .int .i64 m.at_, .string (⟨#[112]⟩ ++ nm), .string ⟨#[116]⟩] 56)).ownsRow w.heap.size 56 5 (.slice OA j Oc) j (flat sc ((ms.take j).map (mvS K))) from own_keep HH.out.1 (fun j cs hb' => (hb'.below HWB.out hb'.lt).alloc _))
          have HCE := Lib.hid (show ∀ k u, (sc ⟨kd, ky, m.at_, ⟨#[112]⟩ ++ nm, ⟨#[116]⟩⟩)[k]? = some u → (World.alloc (wc.setCell ⟨b, 3, none⟩ (.string (⟨#[112]⟩ ++ nm))) (.cells #[.int .i64 kd, .int .i64 ky, .int .i64 m.at_, .string (⟨#[112]⟩ ++ nm), .string ⟨#[116]⟩] 56)).cell? ((⟨wc.heap.size, 0, none⟩ : Addr).add k) = some u from by
            intro k u hu
            rw [show (⟨wc.heap.size, 0, none⟩ : Addr).add k = ⟨wc.heap.size, k, none⟩ from by unfold Addr.add; by_cases hk0 : k = 0 <;> simp [hk0]]
            have hc := (Blk.new (wc.setCell ⟨b, 3, none⟩ (.string (⟨#[112]⟩ ++ nm))) 56 #[.int .i64 kd, .int .i64 ky, .int .i64 m.at_, .string (⟨#[112]⟩ ++ nm), .string ⟨#[116]⟩]).cell k
            rw [hsz] at hc
            refine hc.trans ?_
            simpa [sc] using hu)
          have HSZ : Hid (w.heap.size ≤ (World.alloc (wc.setCell ⟨b, 3, none⟩ (.string (⟨#[112]⟩ ++ nm))) (.cells #[.int .i64 kd, .int .i64 ky, .int .i64 m.at_, .string (⟨#[112]⟩ ++ nm), .string ⟨#[116]⟩] 56)).heap.size) := Lib.hid (by have h1 := HH.out.2.size; have h2 := HC.out.2.2.size; rw [World.size_alloc, hsz]; omega)
          clear hsz
          go_wp2_with (at_builtin; refine wpList_append_own _ rfl _ _ 53 rfl w.heap.size 56 i0 zStep 5 56 Tryd.underlying53 HI.out.1 HI.out.2.1 HI.out.2.2.1 HI.out.2.2.2 rfl (by decide) (.slice OA j Oc) j (flat sc ((ms.take j).map (mvS K))) rfl HOW.out ⟨wc.heap.size, 0, none⟩ 1 1 (sc ⟨kd, ky, m.at_, ⟨#[112]⟩ ++ nm, ⟨#[116]⟩⟩) rfl rfl HCE.out (sc_one _) (by unfold maxLen; omega) (by omega) HSZ.out ?_; intro v2 w8 hown hg8 _; obtain ⟨OA2, Oc2, hv2⟩ := own_slice hown; subst hv2; have HF := Lib.hid (mov_step (K := K) HH.out HWB.out hjl (by rw [← HM.out.1]; unfold mvS; rw [HM.out.2.1, ← HM.out.2.2.1, ← HM.out.2.2.2.1, ← HM.out.2.2.2.2]; simp [HLT.out]) hown hg8); clear hown hg8)
          go_roundg (n - (j + 1))
          case measure => omega
          case rel => exact ⟨j + 1, OA2, Oc2, by omega, by go_num, rfl, HF⟩

        · have HLT := Lib.hid hlt
          have HWB := Lib.hid (show Below wr.heap.size wr (wc) from HC.out.2.2)
          have hsz : (wc).heap.size = wc.heap.size := by simp [World.size_setCell]
          have HOW := Lib.hid (show (World.alloc (wc) (.cells #[.int .i64 kd, .int .i64 ky, .int .i64 m.at_, .string (nm), .string ⟨#[116]⟩] 56)).ownsRow w.heap.size 56 5 (.slice OA j Oc) j (flat sc ((ms.take j).map (mvS K))) from own_keep HH.out.1 (fun j cs hb' => (hb'.below HWB.out hb'.lt).alloc _))
          have HCE := Lib.hid (show ∀ k u, (sc ⟨kd, ky, m.at_, nm, ⟨#[116]⟩⟩)[k]? = some u → (World.alloc (wc) (.cells #[.int .i64 kd, .int .i64 ky, .int .i64 m.at_, .string (nm), .string ⟨#[116]⟩] 56)).cell? ((⟨wc.heap.size, 0, none⟩ : Addr).add k) = some u from by
            intro k u hu
            rw [show (⟨wc.heap.size, 0, none⟩ : Addr).add k = ⟨wc.heap.size, k, none⟩ from by unfold Addr.add; by_cases hk0 : k = 0 <;> simp [hk0]]
            have hc := (Blk.new (wc) 56 #[.int .i64 kd, .int .i64 ky, .int .i64 m.at_, .string (nm), .string ⟨#[116]⟩]).cell k
            rw [hsz] at hc
            refine hc.trans ?_
            simpa [sc] using hu)
          have HSZ : Hid (w.heap.size ≤ (World.alloc (wc) (.cells #[.int .i64 kd, .int .i64 ky, .int .i64 m.at_, .string (nm), .string ⟨#[116]⟩] 56)).heap.size) := Lib.hid (by have h1 := HH.out.2.size; have h2 := HC.out.2.2.size; rw [World.size_alloc, hsz]; omega)
          clear hsz
          go_wp2_with (at_builtin; refine wpList_append_own _ rfl _ _ 53 rfl w.heap.size 56 i0 zStep 5 56 Tryd.underlying53 HI.out.1 HI.out.2.1 HI.out.2.2.1 HI.out.2.2.2 rfl (by decide) (.slice OA j Oc) j (flat sc ((ms.take j).map (mvS K))) rfl HOW.out ⟨wc.heap.size, 0, none⟩ 1 1 (sc ⟨kd, ky, m.at_, nm, ⟨#[116]⟩⟩) rfl rfl HCE.out (sc_one _) (by unfold maxLen; omega) (by omega) HSZ.out ?_; intro v2 w8 hown hg8 _; obtain ⟨OA2, Oc2, hv2⟩ := own_slice hown; subst hv2; have HF := Lib.hid (mov_step (K := K) HH.out HWB.out hjl (by rw [← HM.out.1]; unfold mvS; rw [HM.out.2.1, ← HM.out.2.2.1, ← HM.out.2.2.2.1, ← HM.out.2.2.2.2]; simp [HLT.out]) hown hg8); clear hown hg8)
          go_roundg (n - (j + 1))
          case measure => omega
          case rel => exact ⟨j + 1, OA2, Oc2, by omega, by go_num, rfl, HF⟩

    · have hlt : ¬ (j : Int) < (n : Int) := by omega
      go_wp2_with fail
      go_ret
      have hjn : j = n := by omega
      subst hjn
      exact ⟨_, rfl, HH.out⟩
end
end Go.Proofs.YtlbnemnadegapaaDoor.Ky
