/- The walk of laws.fieldSteps; printed by gen_kfsteps.py; the conditions are on what lies in memory. -/
import Derived.Test.YtlbnemnadegapaaDoorKfMv
import Derived.Deep.LoopGhost
set_option linter.unusedVariables false
set_option linter.unusedSimpArgs false
namespace Go.Proofs.YtlbnemnadegapaaDoor.Kf
open Go.RowKit Go.Proofs.YtlbnemnadegapaaDoor.K Go.Proofs.YtlbnemnadegapaaDoor.Nm Go.Proofs.YtlbnemnadegapaaDoor.Ky
theorem infoFS3 : (Tryd.prog.info? 40).map (·.size) = some 3 := by kernel_rfl
theorem infoFS : (Tryd.prog.info? 40).map (fun i => (i.zero, i.size, i.bytes)) = some (some (.agg #[.int .i64 0, .string ByteArray.empty, .slice none 0 0]), 3, 48) := by kernel_rfl
theorem fs_cells (k : Int) (t : ByteArray) (A : Option Addr) (n c : Nat) : ∀ u ∈ (#[.int .i64 k, .string t, .slice A n c] : Array Value).toList, u.oneCell' = true := by
  intro u hu
  simp only [List.mem_cons, List.not_mem_nil, or_false] at hu
  rcases hu with rfl | rfl | rfl <;> rfl
/-- The texts of a step's list, in a block. -/
def StL (w : World) (s : FS) : Prop := KL w 0 9 (.slice s.A s.n s.c) (s.l.map Value.string)
theorem StL.slt {w : World} {s : FS} (h : StL w s) : SLt w s.A s.n s.l := (KL.reads h).1
def StR (w : World) (ms : List FM) (j : Nat) (v : Value) (wr : World) (ss : List FS) : Prop := wr.ownsRow w.heap.size 40 3 v j (flat fc ss) ∧ ss.map fsD = (ms.take j).map mvD ∧ (∀ s ∈ ss, StL wr s ∧ SOk s ∧ s.l.length ≤ 1000) ∧ Below w.heap.size w wr
def StQ (w : World) (ms : List FM) (j : Nat) (v : Value) (wr : World) : Prop := ∃ ss, StR w ms j v wr ss
theorem st_snoc {w wr wn w9 : World} {ms : List FM} {j : Nat} {v' : Value} {ss : List FS} {s : FS} (H : ss.map fsD = (ms.take j).map mvD ∧ (∀ s ∈ ss, StL wr s ∧ SOk s ∧ s.l.length ≤ 1000) ∧ Below w.heap.size w wr) (hb : Below wr.heap.size wr wn)
    (hm : ∃ m, ms[j]? = some m ∧ fsD s = mvD m) (hs : SOk s ∧ s.l.length ≤ 1000) (hl : StL wn s)
    (hown : w9.ownsRow w.heap.size 40 3 v' (j + 1) (flat fc ss ++ fc s)) (hbl : Below w.heap.size wn w9) (hfr : Fr (· = 40) wn w9) : StQ w ms (j + 1) v' w9 := by
  obtain ⟨m, hm1, hm2⟩ := hm
  obtain ⟨h2, h3, h4⟩ := H
  refine ⟨ss ++ [s], by rw [flat_app]; simpa [flat] using hown, ?_, fun r hr => ?_, (h4.trans (hb.mono h4.size)).trans hbl⟩
  · rw [List.map_append, h2, List.take_add_one, hm1, List.map_append]
    simp [hm2]
  · rcases List.mem_append.1 hr with hr | hr
    · obtain ⟨a, b, c⟩ := h3 r hr
      exact ⟨(KL.below a hb).fr hfr (by decide), b, c⟩
    · rw [List.mem_singleton.1 hr]
      exact ⟨hl.fr hfr (by decide), hs.1, hs.2⟩
def Std14 (w : World) (e : Ending) (w' : World) : Prop := ∃ b, e = .returned (.slice (some ⟨b, 0, none⟩) 14 14) ∧ Blk w' b 9 (std14.map Value.string).toArray ∧ Below w.heap.size w w'
set_option maxRecDepth 100000 in
set_option maxHeartbeats 1000000 in
theorem NameStandard_0 (w : World) : Calls Tryd.prog 32 #[.int .i64 0] w (Std14 w) := by
  go_enter Tryd.func32, Tryd.ntmps32
  go_wp2
  go_ret
  exact ⟨_, rfl, Blk.new w _ _, below_alloc' (Below.refl w.heap.size w) _⟩
/-- A block of texts. -/
def TB (w : World) (a : Addr) (n : Nat) (l : List ByteArray) : Prop := ∃ g, a = ⟨g, 0, none⟩ ∧ Blk w g 9 (l.map Value.string).toArray ∧ l.length = n
section
variable {w w' : World} {a : Addr} {n : Nat} {l : List ByteArray}
theorem TB.below (h : TB w a n l) (hb : Below w.heap.size w w') : TB w' a n l := by
  obtain ⟨g, h1, h2, h3⟩ := h
  exact ⟨g, h1, h2.below hb h2.lt, h3⟩
theorem TB.at_ (h : TB w a n l) {k : Nat} (hk : k < n) : w.cell? (a.add k) = some (.string (pickT l (k : Nat))) := by
  obtain ⟨g, rfl, h2, h3⟩ := h
  rw [add_plain, h2.cell]
  unfold pickT
  rw [List.getD_eq_getElem?_getD, Int.toNat_natCast]
  simp [List.getElem?_eq_getElem (show k < l.length by omega)]
theorem TB.kl (h : TB w a n l) (hn : n ≤ 1000) (k : Nat) (hk : k ≤ n) : KL w 0 9 (.slice (some a) k n) ((l.take k).map Value.string) := by
  obtain ⟨g, rfl, h2, h3⟩ := h
  have := KL.of_own (h2.own_toList 0 (Nat.zero_le _) (n := n) (by simp [h3]) (by unfold maxLen; omega))
  have := KL.take (A := some ⟨g, 0, none⟩) (c := n) (n := n) this k (by simp [h3]; exact hk)
  rw [List.map_take]
  simpa using this
end
/-- What lies still: the four lists of texts. -/
def Tabs (w : World) (aN aU aG aO : Addr) : Prop := TB w aN 4 names4 ∧ TB w aU 2 uses2 ∧ TB w aG 14 std14 ∧ TB w aO 8 ops8
theorem Tabs.below {w w' : World} {aN aU aG aO : Addr} (h : Tabs w aN aU aG aO) (hb : Below w.heap.size w w') : Tabs w' aN aU aG aO := ⟨h.1.below hb, h.2.1.below hb, h.2.2.1.below hb, h.2.2.2.below hb⟩
theorem TB.fr {w w' : World} {a : Addr} {n : Nat} {l : List ByteArray} (h : TB w a n l) (hf : Fr (· = 40) w w') : TB w' a n l := by
  obtain ⟨g, h1, h2, h3⟩ := h
  exact ⟨g, h1, hf.blk h2 (by decide), h3⟩
theorem Tabs.fr {w w' : World} {aN aU aG aO : Addr} (h : Tabs w aN aU aG aO) (hf : Fr (· = 40) w w') : Tabs w' aN aU aG aO := ⟨h.1.fr hf, h.2.1.fr hf, h.2.2.1.fr hf, h.2.2.2.fr hf⟩
def StepsPost (w : World) (n : Nat) (ms : List FM) (e : Ending) (w' : World) : Prop := ∃ A c ss, e = .returned (.slice A n c) ∧ StR w ms n (.slice A n c) w' ss
/-- The list of operations in the making. -/
def InL (wr : World) (g : Nat) (L : List ByteArray) (A : Option Addr) (c : Nat) (wx : World) : Prop := Blk wx g 40 #[.int .i64 2, .string ⟨#[]⟩, .slice A L.length c] ∧ wx.ownsRow wr.heap.size 9 1 (.slice A L.length c) L.length (L.map Value.string) ∧ Below wr.heap.size wr wx
theorem inl_snoc {w0 w8 wn : World} {g : Nat} {L : List ByteArray} {p : ByteArray} {vA : Option Addr} {vc : Nat} (hbn : Blk wn g 40 #[.int .i64 2, .string ⟨#[]⟩, .slice vA (L.length + 1) vc]) (hown : w8.ownsRow w0.heap.size 9 1 (.slice vA (L.length + 1) vc) (L.length + 1) (L.map Value.string ++ [.string p])) (hfr : Fr (· = 40) w8 wn) (hb : Below w0.heap.size w0 wn) : InL w0 g (L ++ [p]) vA vc wn := by
  unfold InL
  rw [List.length_append, List.map_append]
  exact ⟨hbn, own_keep hown (fun j cs hb => hfr.blk hb (by decide)), hb⟩
section
variable {w w' : World}
set_option maxRecDepth 100000 in
set_option maxHeartbeats 8000000 in
theorem fieldSteps_calls (w : World) (A : Option Addr) (n c : Nat) (ms : List FM) (h : FML w A n ms) (hn : n ≤ 1000) (h8 : ∀ m ∈ ms, m.ops.length ≤ 8) :
    Calls Tryd.prog 13 #[.slice A n c] w (StepsPost w n ms) := by
  obtain ⟨i0, hi, hz0, hz1, hz2⟩ := info_parts infoFS
  have HI := Lib.hid (And.intro hi (And.intro hz0 (And.intro hz1 hz2)))
  obtain ⟨j0, hj, hy0, hy1, hy2⟩ := info_parts infoStr
  have HIS := Lib.hid (And.intro hj (And.intro hy0 (And.intro hy1 hy2)))
  have HLN := Lib.hid h.len
  have HM := Lib.hid (And.intro h h8)
  clear h hi hz0 hz1 hz2 hj hy0 hy1 hy2 h8
  obtain ⟨w2, hw2⟩ : ∃ w2, w2 = (w.alloc (.cells #[.string ⟨#[107, 105, 100]⟩, .string ⟨#[117, 115, 101]⟩, .string ⟨#[107, 101, 121, 95, 111, 112, 115]⟩, .string ⟨#[97, 108, 103]⟩] 9)).alloc (.cells #[.string ⟨#[115, 105, 103]⟩, .string ⟨#[101, 110, 99]⟩] 9) := ⟨_, rfl⟩
  have HB2 := Lib.hid (show Below w.heap.size w w2 by rw [hw2]; exact below_alloc' (below_alloc' (Below.refl _ _) _) _)
  have HTN := Lib.hid (show TB w2 ⟨w.heap.size, 0, none⟩ 4 names4 from ⟨_, rfl, by rw [hw2]; exact (Blk.new w _ _).alloc _, rfl⟩)
  have HTU := Lib.hid (show TB w2 ⟨w.heap.size + 1, 0, none⟩ 2 uses2 from ⟨_, rfl, by
    rw [hw2]
    have := Blk.new (w.alloc (.cells #[.string ⟨#[107, 105, 100]⟩, .string ⟨#[117, 115, 101]⟩, .string ⟨#[107, 101, 121, 95, 111, 112, 115]⟩, .string ⟨#[97, 108, 103]⟩] 9)) 9 #[.string ⟨#[115, 105, 103]⟩, .string ⟨#[101, 110, 99]⟩]
    rw [World.size_alloc] at this
    exact this, rfl⟩)
  go_enter Tryd.func13, Tryd.ntmps13
  go_upto_region 3 with (fail)
  rw [← hw2]
  clear hw2
  go_upto_region 4 with (go_at_call 32; (with_reducible refine Calls.mono (NameStandard_0 _) ?_); rintro e w3 ⟨bG, rfl, hG, hb3⟩; have HG := Lib.hid (And.intro hG hb3); clear hG hb3)
  obtain ⟨w4, hw4⟩ : ∃ w4, w4 = w3.alloc (.cells #[.string ⟨#[115, 105, 103, 110]⟩, .string ⟨#[118, 101, 114, 105, 102, 121]⟩, .string ⟨#[101, 110, 99, 114, 121, 112, 116]⟩, .string ⟨#[100, 101, 99, 114, 121, 112, 116]⟩, .string ⟨#[119, 114, 97, 112, 75, 101, 121]⟩, .string ⟨#[117, 110, 119, 114, 97, 112, 75, 101, 121]⟩, .string ⟨#[100, 101, 114, 105, 118, 101, 75, 101, 121]⟩, .string ⟨#[100, 101, 114, 105, 118, 101, 66, 105, 116, 115]⟩] 9) := ⟨_, rfl⟩
  have hb4 : Below w3.heap.size w3 w4 := by rw [hw4]; exact below_alloc' (Below.refl _ _) _
  have hT : Tabs w4 ⟨w.heap.size, 0, none⟩ ⟨w.heap.size + 1, 0, none⟩ ⟨bG, 0, none⟩ ⟨w3.heap.size, 0, none⟩ := ⟨(HTN.out.below HG.out.2).below hb4, (HTU.out.below HG.out.2).below hb4, (show TB w3 ⟨bG, 0, none⟩ 14 std14 from ⟨_, rfl, HG.out.1, rfl⟩).below hb4, ⟨_, rfl, by rw [hw4]; exact Blk.new w3 _ _, rfl⟩⟩
  have hB4 : Below w.heap.size w w4 := (HB2.out.trans (HG.out.2.mono HB2.out.size)).trans (hb4.mono (Nat.le_trans HB2.out.size HG.out.2.size))
  go_upto_region 5 with (fail)
  rw [← hw4]
  clear hw4 hb4 HTN HTU HG HB2
  obtain ⟨aN, hN⟩ : ∃ a : Addr, a = ⟨w.heap.size, 0, none⟩ := ⟨_, rfl⟩
  obtain ⟨aU, hU⟩ : ∃ a : Addr, a = ⟨w.heap.size + 1, 0, none⟩ := ⟨_, rfl⟩
  obtain ⟨aG, hG⟩ : ∃ a : Addr, a = ⟨bG, 0, none⟩ := ⟨_, rfl⟩
  obtain ⟨aO, hO⟩ : ∃ a : Addr, a = ⟨w3.heap.size, 0, none⟩ := ⟨_, rfl⟩
  rw [← hN, ← hU, ← hG, ← hO] at hT
  rw [← hN, ← hU, ← hG, ← hO]
  clear hN hU hG hO
  have HT := Lib.hid hT
  have H0 : Hid (StQ w ms 0 (.slice none 0 0) w4) := Lib.hid ⟨[], World.ownsRow_nil _ _ _ _, rfl, fun s hs => by simp at hs, hB4⟩
  have HB4 := Lib.hid hB4
  clear hT hB4
  go_wp2_with fail
  go_loopg [20, 7] n (fun q u u7 wr => ∃ (j : Nat) (OA : Option Addr) (Oc : Nat), q + j = n ∧ u = .int .i64 (j : Nat) ∧ u7 = .slice OA j Oc ∧ Hid (StQ w ms j u7 wr) ∧ Hid (Tabs wr aN aU aG aO))
  case atStart => exact ⟨0, none, 0, rfl, rfl, rfl, H0, HT⟩
  case round =>
    clear H0
    obtain ⟨j, OA, Oc, hqj, rfl, rfl, HQ, HB⟩ := hrel
    obtain ⟨ss, hH⟩ := HQ.out
    have HH := Lib.hid hH
    clear hH HQ
    by_cases hj : j < n
    · have hjl : j < ms.length := by have := HLN.out; omega
      obtain ⟨ad, rfl, k0, k1, k2, k3⟩ := (HM.out.1.below HH.out.2.2.2 (Nat.le_refl _)).at_ hjl
      obtain ⟨m, hm⟩ : ∃ m, m = ms[j] := ⟨_, rfl⟩
      have hmm : m ∈ ms := by rw [hm]; exact List.getElem_mem _
      have hmj : ms[j]? = some m := by rw [List.getElem?_eq_getElem hjl, hm]
      rw [← hm] at k0 k1 k2 k3
      obtain ⟨⟨a0, a1⟩, a2, a3⟩ := (HM.out.1.2 m hmm).1
      have hops := (HM.out.1.2 m hmm).2
      have ho8 := HM.out.2 m hmm
      obtain ⟨kd, hkd⟩ : ∃ kd, kd = m.kind % 5 := ⟨_, rfl⟩
      have t0 : m.kind.tmod 5 = kd := by rw [hkd]; exact Int.tmod_eq_emod_of_nonneg a0
      have e0 : IntKind.i64.wrap kd = kd := wrap_small _ (by omega) (by omega)
      have hk5 : kd = 0 ∨ kd = 1 ∨ kd = 2 ∨ kd = 3 ∨ kd = 4 := by omega
      obtain ⟨i2, hi2⟩ : ∃ i : Nat, m.at_ % 2 = (i : Nat) := ⟨(m.at_ % 2).toNat, by omega⟩
      obtain ⟨i14, hi14⟩ : ∃ i : Nat, m.at_ % 14 = (i : Nat) := ⟨(m.at_ % 14).toNat, by omega⟩
      obtain ⟨i4, hi4⟩ : ∃ i : Nat, m.at_ % 4 = (i : Nat) := ⟨(m.at_ % 4).toNat, by omega⟩
      have l2 : i2 < 2 := by omega
      have l14 : i14 < 14 := by omega
      have l4 : i4 < 4 := by omega
      have t2 : m.at_.tmod 2 = (i2 : Nat) := by rw [Int.tmod_eq_emod_of_nonneg a2, hi2]
      have t14 : m.at_.tmod 14 = (i14 : Nat) := by rw [Int.tmod_eq_emod_of_nonneg a2, hi14]
      have t4 : m.at_.tmod 4 = (i4 : Nat) := by rw [Int.tmod_eq_emod_of_nonneg a2, hi4]
      have e1 : IntKind.i64.wrap m.at_ = m.at_ := wrap_small _ (by omega) (by omega)
      obtain ⟨wa, hwa⟩ : ∃ wa, wa = wr.alloc (.cells #[.int .u8 m.kind, .int .u8 m.at_, .string m.id, .slice m.A m.n m.c] 27) := ⟨_, rfl⟩
      have hA : Below wr.heap.size wr wa := by rw [hwa]; exact below_alloc' (Below.refl _ _) _
      have hF : Blk wa wr.heap.size 27 #[.int .u8 m.kind, .int .u8 m.at_, .string m.id, .slice m.A m.n m.c] := by rw [hwa]; exact Blk.new wr _ _
      obtain ⟨wb, hwb⟩ : ∃ wb, wb = wa.alloc (.cells #[.int .i64 kd, .string ⟨#[]⟩, .slice none 0 0] 40) := ⟨_, rfl⟩
      have hwab : Below wa.heap.size wa wb := by rw [hwb]; exact below_alloc' (Below.refl _ _) _
      have hWB : Below wr.heap.size wr wb := hA.trans (hwab.mono hA.size)
      have hSB : Blk wb wa.heap.size 40 #[.int .i64 kd, .string ⟨#[]⟩, .slice none 0 0] := by rw [hwb]; exact Blk.new wa _ _
      have f0 : wa.cell? ⟨wr.heap.size, 0, none⟩ = some (.int .u8 m.kind) := by rw [hF.cell]; rfl
      have hFb := hF.below hwab hF.lt
      have f1 : wb.cell? ⟨wr.heap.size, 1, none⟩ = some (.int .u8 m.at_) := by rw [hFb.cell]; rfl
      have f2 : wb.cell? ⟨wr.heap.size, 2, none⟩ = some (.string m.id) := by rw [hFb.cell]; rfl
      have f3 : wb.cell? ⟨wr.heap.size, 3, none⟩ = some (.slice m.A m.n m.c) := by rw [hFb.cell]; rfl
      have s0 : wb.cell? ⟨wa.heap.size, 0, none⟩ = some (.int .i64 kd) := by rw [hSB.cell]; rfl
      have HTb := Lib.hid (HB.out.below hWB)
      have HA := Lib.hid hA
      have HWB := Lib.hid hWB
      have HS := Lib.hid hSB
      have HKD := Lib.hid (And.intro (hkd.symm) (And.intro hi2 (And.intro hi14 hi4)))
      have HMJ0 := Lib.hid hmj
      have HOP := Lib.hid (And.intro (hops.below HH.out.2.2.2 (Nat.le_refl _)) ho8)
      have hji : (j : Int) < (n : Int) := by omega
      clear hm hmm hmj a0 a1 a2 a3 hops ho8 hkd hi2 hi14 hi4 hF hwab hWB hSB hFb hA
      go_upto_region 9 with (fail)
      rw [← hwa]
      clear hwa k0 k1 k2 k3
      go_upto_region 10 with (fail)
      rw [← hwb]
      clear hwb
      rcases hk5 with rfl | rfl | rfl | rfl | rfl
      · go_upto_region 29 with (((with_reducible refine st_at (.tmp 35) ?_); refine put_one rfl (.tmp 35) _ rfl (fun W => by kernel_rfl) wa.heap.size 1 rfl (.string m.id) (.inl ⟨_, rfl⟩) rfl _ HS.out (by simp) ?_; intro wn hbn hln hfr; (simp only [List.setIfInBounds_toArray, List.set_cons_succ, List.set_cons_zero] at hbn); have HN := Lib.hid (And.intro hbn (hln wr.heap.size wr HA.out.size HWB.out)); clear hbn hln hfr))
        have HMJ := Lib.hid (show ∃ m', ms[j]? = some m' ∧ fsD ⟨none, 0, 0, 0, m.id, []⟩ = mvD m' from ⟨m, HMJ0.out, by unfold mvD fsD; rw [HKD.out.1]; rfl⟩)
        have HST := Lib.hid (And.intro (own_keep HH.out.1 (fun j cs hb => hb.below HN.out.2 hb.lt)) (HH.out.2.2.2.trans (HN.out.2.mono HH.out.2.2.2.size)))
        go_wp2_with (first
          | ((with_reducible refine ld_at (.tmp 10) ?_); refine load_blk rfl 40 _ rfl wa.heap.size rfl _ 3 HN.out.1 _ Tryd.underlying40 rfl infoFS3 rfl ?_)
          | (at_builtin; refine push_own HST.out.1 HST.out.2.size Tryd.underlying33 HI.out rfl (by decide) rfl (fs_cells _ _ _ _ _) (by omega) (by decide) rfl _ _ rfl rfl rfl rfl ?_; intro A9 c9 w9 hown hbl hfr; have H9 := Lib.hid (And.intro hown (And.intro hbl hfr)); clear hown hbl hfr))
        go_roundg (n - (j + 1))
        case measure => omega
        case rel =>
          refine ⟨j + 1, A9, c9, by omega, by go_num, rfl, Lib.hid (st_snoc (s := ⟨none, 0, 0, 0, m.id, []⟩) HH.out.2 HN.out.2 ?_ ?_ ?_ H9.out.1 H9.out.2.1 H9.out.2.2), Lib.hid ((HB.out.below HN.out.2).fr H9.out.2.2)⟩
          · exact HMJ.out
          · exact ⟨.inl rfl, Nat.zero_le _⟩
          · exact KL.nil _ _ _
      · have x := HTb.out.2.1.at_ l2
        obtain ⟨u, hu⟩ : ∃ u, u = pickT uses2 (i2 : Nat) := ⟨_, rfl⟩
        rw [← hu] at x
        have HU := Lib.hid hu
        clear hu
        go_upto_region 29 with (((with_reducible refine st_at (.tmp 44) ?_); refine put_one rfl (.tmp 44) _ rfl (fun W => by kernel_rfl) wa.heap.size 1 rfl (.string u) (.inl ⟨_, rfl⟩) rfl _ HS.out (by simp) ?_; intro wn hbn hln hfr; (simp only [List.setIfInBounds_toArray, List.set_cons_succ, List.set_cons_zero] at hbn); have HN := Lib.hid (And.intro hbn (hln wr.heap.size wr HA.out.size HWB.out)); clear hbn hln hfr))
        have HMJ := Lib.hid (show ∃ m', ms[j]? = some m' ∧ fsD ⟨none, 0, 0, 1, u, []⟩ = mvD m' from ⟨m, HMJ0.out, by unfold mvD fsD; rw [HKD.out.1, HKD.out.2.1, HU.out]; rfl⟩)
        have HST := Lib.hid (And.intro (own_keep HH.out.1 (fun j cs hb => hb.below HN.out.2 hb.lt)) (HH.out.2.2.2.trans (HN.out.2.mono HH.out.2.2.2.size)))
        go_wp2_with (first
          | ((with_reducible refine ld_at (.tmp 10) ?_); refine load_blk rfl 40 _ rfl wa.heap.size rfl _ 3 HN.out.1 _ Tryd.underlying40 rfl infoFS3 rfl ?_)
          | (at_builtin; refine push_own HST.out.1 HST.out.2.size Tryd.underlying33 HI.out rfl (by decide) rfl (fs_cells _ _ _ _ _) (by omega) (by decide) rfl _ _ rfl rfl rfl rfl ?_; intro A9 c9 w9 hown hbl hfr; have H9 := Lib.hid (And.intro hown (And.intro hbl hfr)); clear hown hbl hfr))
        go_roundg (n - (j + 1))
        case measure => omega
        case rel =>
          refine ⟨j + 1, A9, c9, by omega, by go_num, rfl, Lib.hid (st_snoc (s := ⟨none, 0, 0, 1, u, []⟩) HH.out.2 HN.out.2 ?_ ?_ ?_ H9.out.1 H9.out.2.1 H9.out.2.2), Lib.hid ((HB.out.below HN.out.2).fr H9.out.2.2)⟩
          · exact HMJ.out
          · exact ⟨.inr (.inl rfl), Nat.zero_le _⟩
          · exact KL.nil _ _ _
      · obtain ⟨mk, ma, mid, mA, mn, mc, mo⟩ := m
        simp only at HOP HMJ0 HKD f0 f1 f2 f3 t0 t2 t14 t4 e1
        have hml : mn = mo.length := by have := HOP.out.1.1; rw [bys_length] at this; omega
        have HML := Lib.hid hml
        obtain ⟨w0, hw0⟩ : ∃ w0 : World, w0 = wr := ⟨wr, rfl⟩
        subst hw0
        have H0 : Hid (InL w0 wa.heap.size (opsO (mo.take 0)) none 0 wb) := Lib.hid ⟨HS.out, World.ownsRow_nil _ _ _ _, HWB.out⟩
        have hm8 : mn ≤ 8 := by have := HOP.out.2; omega
        clear hml t2 t14 t4 e1 l2 l14 l4
        go_wp2_with fail
        go_loopg [50] mn (fun q u wr => ∃ (i : Nat) (LA : Option Addr) (Lc : Nat), q + i = mn ∧ u = .int .i64 (i : Nat) ∧ Hid (InL w0 wa.heap.size (opsO (mo.take i)) LA Lc wr))
        case atStart => exact ⟨0, none, 0, rfl, rfl, H0⟩
        case round =>
          clear H0
          obtain ⟨i, LA, Lc, hqi, rfl, HIN⟩ := hrel
          obtain ⟨L, hL⟩ : ∃ L, L = opsO (mo.take i) := ⟨_, rfl⟩
          rw [← hL] at HIN
          have c2 : wr.cell? ⟨wa.heap.size, 2, none⟩ = some (.slice LA L.length Lc) := by rw [HIN.out.1.cell]; rfl
          have HL := Lib.hid hL
          have hLn : L.length ≤ 8 := by rw [hL]; have h1 := opsO_len (mo.take i); have := HML.out; rw [List.length_take] at h1; omega
          have HLn := Lib.hid hLn
          clear hL hLn
          by_cases hi : i < mn
          · have hio : i < mo.length := by rw [← HML.out]; exact hi
            have hii : (i : Int) < (mn : Int) := by omega
            have HOx := HOP.out.1.below HIN.out.2.2 (Nat.le_refl _)
            obtain ⟨oa, ou, rfl, hoc, hox⟩ := HOx.at_ hi
            obtain ⟨b, hb⟩ : ∃ b, b = mo[i] := ⟨_, rfl⟩
            rw [bys_get mo i hio, ← hb] at hoc
            injection hoc with hoc
            rw [← hoc] at hox
            obtain ⟨bi, hbi⟩ : ∃ z : Int, z = (b.toNat : Int) := ⟨_, rfl⟩
            rw [← hbi] at hox
            obtain ⟨o, ho⟩ : ∃ o, o = b.toNat % 8 := ⟨_, rfl⟩
            have ho8 : o < 8 := by omega
            have t8 : bi.tmod 8 = (o : Nat) := by rw [hbi, ho, Int.tmod_eq_emod_of_nonneg (by omega)]; rfl
            have x := (HB.out.below HIN.out.2.2).2.2.2.at_ ho8
            obtain ⟨p, hp⟩ : ∃ p, p = pickT ops8 (o : Nat) := ⟨_, rfl⟩
            rw [← hp] at x
            have HP := Lib.hid (show opsO (mo.take (i + 1)) = addO L b by rw [opsO_snoc mo i hio, ← HL.out, hb])
            have HPP := Lib.hid (show p = pickT ops8 (b.toNat % 8 : Nat) by rw [hp, ho])
            clear hb hoc hbi ho hp HOx
            have HCT := Lib.hid (TContains_calls wr LA L.length Lc L p (Reads.of_own HIN.out.2.1) (by have := HLn.out; omega))
            by_cases hx : p ∈ L
            · have HX := Lib.hid hx
              clear hx
              go_wp2_with (go_at_call 16; (with_reducible refine Calls.mono HCT.out ?_); rintro e w5 ⟨⟨r, rfl, hr⟩, rfl⟩; have hr1 := hr.2 HX.out; subst hr1; clear hr)
              go_roundg (mn - (i + 1))
              case measure => omega
              case rel => exact ⟨i + 1, LA, Lc, by omega, by go_num, Lib.hid (by rw [HP.out]; unfold addO; rw [← HPP.out, if_pos HX.out]; exact HIN.out)⟩
            · have HX := Lib.hid hx
              clear hx
              go_wp2_with (first
                | (go_at_call 16; (with_reducible refine Calls.mono HCT.out ?_); rintro e w5 ⟨⟨r, rfl, hr⟩, rfl⟩; have hr1 : r = false := (by cases r with | false => rfl | true => exact absurd (hr.1 rfl) HX.out); subst hr1; clear hr)
                | (at_builtin; refine own_app HIN.out.2.1 HIN.out.2.2.size HIS.out (by have := HLn.out; omega) rfl _ _ rfl rfl rfl ?_; intro vA vc w8 hown hbl hf8; have HS8 := Lib.hid (hf8.blk HIN.out.1 (by decide)); have HF := Lib.hid (And.intro hown (HIN.out.2.2.trans hbl)); clear hown hbl hf8)
                | ((with_reducible refine st_at (.tmp 69) ?_); refine put_one rfl (.tmp 69) _ rfl (fun W => by kernel_rfl) wa.heap.size 2 rfl (.slice vA (L.length + 1) vc) (.inr (.inr ⟨_, _, _, rfl⟩)) rfl _ HS8.out (by simp) ?_; intro wn hbn hln hfr; (simp only [List.setIfInBounds_toArray, List.set_cons_succ, List.set_cons_zero] at hbn); have HN := Lib.hid (inl_snoc (p := p) hbn HF.out.1 hfr (hln w0.heap.size w0 HA.out.size HF.out.2)); clear hbn hln hfr))
              go_roundg (mn - (i + 1))
              case measure => omega
              case rel => exact ⟨i + 1, vA, vc, by omega, by go_num, Lib.hid (by rw [HP.out]; unfold addO; rw [← HPP.out, if_neg HX.out]; exact HN.out)⟩
          · obtain rfl : i = mn := by omega
            have hii : ¬ (i : Int) < (i : Int) := by omega
            have HE0 := Lib.hid (show L = opsO mo by rw [HL.out, List.take_of_length_le (by rw [HML.out]; exact Nat.le_refl _)])
            clear HL
            have HL := HE0
            by_cases hl : L = []
            · subst hl
              have HE := Lib.hid (show opsD mo = [pickT ops8 0] by unfold opsD; rw [if_pos HL.out.symm])
              have c3 : wr.cell? ⟨wa.heap.size, 2, none⟩ = some (.slice LA 0 Lc) := c2
              have HS9 := Lib.hid HIN.out.1
              clear c2
              go_upto_region 29 with ((with_reducible refine st_at (.tmp 77) ?_); refine put_one rfl (.tmp 77) _ rfl (fun W => by kernel_rfl) wa.heap.size 2 rfl (.slice (some aO) 1 8) (.inr (.inr ⟨_, _, _, rfl⟩)) rfl _ HS9.out (by simp) ?_; intro wn hbn hln hfr; (simp only [List.setIfInBounds_toArray, List.set_cons_succ, List.set_cons_zero] at hbn); have HN := Lib.hid (And.intro hbn (hln w0.heap.size w0 HA.out.size HIN.out.2.2)); clear hbn hln hfr)
              have HTN := Lib.hid (show KL wn 0 9 (.slice (some aO) 1 8) ([pickT ops8 0].map Value.string) from (HB.out.below HN.out.2).2.2.2.kl (by omega) 1 (by omega))
              have HMJ := Lib.hid (show ∃ m', ms[j]? = some m' ∧ fsD ⟨some aO, 1, 8, 2, ⟨#[]⟩, opsD mo⟩ = mvD m' from ⟨_, HMJ0.out, by unfold mvD fsD; simp only; rw [HKD.out.1]; rfl⟩)
              have HST := Lib.hid (And.intro (own_keep HH.out.1 (fun j cs hb => hb.below HN.out.2 hb.lt)) (HH.out.2.2.2.trans (HN.out.2.mono HH.out.2.2.2.size)))
              go_wp2_with (first
                | ((with_reducible refine ld_at (.tmp 10) ?_); refine load_blk rfl 40 _ rfl wa.heap.size rfl _ 3 HN.out.1 _ Tryd.underlying40 rfl infoFS3 rfl ?_)
                | (at_builtin; refine push_own HST.out.1 HST.out.2.size Tryd.underlying33 HI.out rfl (by decide) rfl (fs_cells _ _ _ _ _) (by omega) (by decide) rfl _ _ rfl rfl rfl rfl ?_; intro A9 c9 w9 hown hbl hfr; have H9 := Lib.hid (And.intro hown (And.intro hbl hfr)); clear hown hbl hfr))
              go_roundg (n - (j + 1))
              case measure => omega
              case rel =>
                refine ⟨j + 1, A9, c9, by omega, by go_num, rfl, Lib.hid (st_snoc (s := ⟨some aO, 1, 8, 2, ⟨#[]⟩, opsD mo⟩) HH.out.2 HN.out.2 ?_ ?_ ?_ H9.out.1 H9.out.2.1 H9.out.2.2), Lib.hid ((HB.out.below HN.out.2).fr H9.out.2.2)⟩
                · exact HMJ.out
                · exact ⟨.inr (.inr (.inl ⟨rfl, opsD_in _, by show 1 ≤ 1000; omega⟩)), by show (opsD mo).length ≤ 1000; rw [HE.out]; show 1 ≤ 1000; omega⟩
                · exact by unfold StL; rw [HE.out]; exact HTN.out
            · have hl0 : ((L.length : Int) == 0) = false := by rw [beq_eq_false_iff_ne]; intro e; exact hl (List.length_eq_zero_iff.1 (by omega))
              have HNE := Lib.hid hl
              have HN := Lib.hid (And.intro HIN.out.1 HIN.out.2.2)
              have HE := Lib.hid (show L = opsD mo by unfold opsD; rw [if_neg (by rw [← HL.out]; exact hl)]; exact HL.out)
              clear hl
              go_upto_region 29 with (fail)
              have HMJ := Lib.hid (show ∃ m', ms[j]? = some m' ∧ fsD ⟨LA, L.length, Lc, 2, ⟨#[]⟩, L⟩ = mvD m' from ⟨_, HMJ0.out, by unfold mvD fsD; simp only; rw [HKD.out.1]; rw [← HE.out]; rfl⟩)
              have HST := Lib.hid (And.intro (own_keep HH.out.1 (fun j cs hb => hb.below HN.out.2 hb.lt)) (HH.out.2.2.2.trans (HN.out.2.mono HH.out.2.2.2.size)))
              go_wp2_with (first
                | ((with_reducible refine ld_at (.tmp 10) ?_); refine load_blk rfl 40 _ rfl wa.heap.size rfl _ 3 HN.out.1 _ Tryd.underlying40 rfl infoFS3 rfl ?_)
                | (at_builtin; refine push_own HST.out.1 HST.out.2.size Tryd.underlying33 HI.out rfl (by decide) rfl (fs_cells _ _ _ _ _) (by omega) (by decide) rfl _ _ rfl rfl rfl rfl ?_; intro A9 c9 w9 hown hbl hfr; have H9 := Lib.hid (And.intro hown (And.intro hbl hfr)); clear hown hbl hfr))
              go_roundg (n - (j + 1))
              case measure => omega
              case rel =>
                refine ⟨j + 1, A9, c9, by omega, by go_num, rfl, Lib.hid (st_snoc (s := ⟨LA, L.length, Lc, 2, ⟨#[]⟩, L⟩) HH.out.2 HN.out.2 ?_ ?_ ?_ H9.out.1 H9.out.2.1 H9.out.2.2), Lib.hid ((HB.out.below HN.out.2).fr H9.out.2.2)⟩
                · exact HMJ.out
                · exact ⟨.inr (.inr (.inl ⟨rfl, fun x hx => by rw [HL.out] at hx; exact opsO_in _ x hx, by show L.length ≤ 1000; have := opsO_len mo; have := HOP.out.2; rw [HL.out]; omega⟩)), by show L.length ≤ 1000; have := opsO_len mo; have := HOP.out.2; rw [HL.out]; omega⟩
                · exact KL.of_own (own_base HIN.out.2.1 (Nat.zero_le _))
      · have x := HTb.out.2.2.1.at_ l14
        obtain ⟨u, hu⟩ : ∃ u, u = pickT std14 (i14 : Nat) := ⟨_, rfl⟩
        rw [← hu] at x
        have HU := Lib.hid hu
        clear hu
        go_upto_region 29 with (((with_reducible refine st_at (.tmp 89) ?_); refine put_one rfl (.tmp 89) _ rfl (fun W => by kernel_rfl) wa.heap.size 1 rfl (.string u) (.inl ⟨_, rfl⟩) rfl _ HS.out (by simp) ?_; intro wn hbn hln hfr; (simp only [List.setIfInBounds_toArray, List.set_cons_succ, List.set_cons_zero] at hbn); have HN := Lib.hid (And.intro hbn (hln wr.heap.size wr HA.out.size HWB.out)); clear hbn hln hfr))
        have HMJ := Lib.hid (show ∃ m', ms[j]? = some m' ∧ fsD ⟨none, 0, 0, 3, u, []⟩ = mvD m' from ⟨m, HMJ0.out, by unfold mvD fsD; rw [HKD.out.1, HKD.out.2.2.1, HU.out]; rfl⟩)
        have HST := Lib.hid (And.intro (own_keep HH.out.1 (fun j cs hb => hb.below HN.out.2 hb.lt)) (HH.out.2.2.2.trans (HN.out.2.mono HH.out.2.2.2.size)))
        go_wp2_with (first
          | ((with_reducible refine ld_at (.tmp 10) ?_); refine load_blk rfl 40 _ rfl wa.heap.size rfl _ 3 HN.out.1 _ Tryd.underlying40 rfl infoFS3 rfl ?_)
          | (at_builtin; refine push_own HST.out.1 HST.out.2.size Tryd.underlying33 HI.out rfl (by decide) rfl (fs_cells _ _ _ _ _) (by omega) (by decide) rfl _ _ rfl rfl rfl rfl ?_; intro A9 c9 w9 hown hbl hfr; have H9 := Lib.hid (And.intro hown (And.intro hbl hfr)); clear hown hbl hfr))
        go_roundg (n - (j + 1))
        case measure => omega
        case rel =>
          refine ⟨j + 1, A9, c9, by omega, by go_num, rfl, Lib.hid (st_snoc (s := ⟨none, 0, 0, 3, u, []⟩) HH.out.2 HN.out.2 ?_ ?_ ?_ H9.out.1 H9.out.2.1 H9.out.2.2), Lib.hid ((HB.out.below HN.out.2).fr H9.out.2.2)⟩
          · exact HMJ.out
          · exact ⟨.inr (.inr (.inr (.inl ⟨rfl, std_sig _ (by rw [HU.out]; exact pick_mem (by show ((i14 : Nat) : Int).toNat < 14; omega))⟩))), Nat.zero_le _⟩
          · exact KL.nil _ _ _
      · have x := HTb.out.1.at_ l4
        obtain ⟨u, hu⟩ : ∃ u, u = pickT names4 (i4 : Nat) := ⟨_, rfl⟩
        rw [← hu] at x
        have HU := Lib.hid hu
        clear hu
        go_upto_region 29 with (((with_reducible refine st_at (.tmp 98) ?_); refine put_one rfl (.tmp 98) _ rfl (fun W => by kernel_rfl) wa.heap.size 1 rfl (.string u) (.inl ⟨_, rfl⟩) rfl _ HS.out (by simp) ?_; intro wn hbn hln hfr; (simp only [List.setIfInBounds_toArray, List.set_cons_succ, List.set_cons_zero] at hbn); have HN := Lib.hid (And.intro hbn (hln wr.heap.size wr HA.out.size HWB.out)); clear hbn hln hfr))
        have HMJ := Lib.hid (show ∃ m', ms[j]? = some m' ∧ fsD ⟨none, 0, 0, 4, u, []⟩ = mvD m' from ⟨m, HMJ0.out, by unfold mvD fsD; rw [HKD.out.1, HKD.out.2.2.2, HU.out]; rfl⟩)
        have HST := Lib.hid (And.intro (own_keep HH.out.1 (fun j cs hb => hb.below HN.out.2 hb.lt)) (HH.out.2.2.2.trans (HN.out.2.mono HH.out.2.2.2.size)))
        go_wp2_with (first
          | ((with_reducible refine ld_at (.tmp 10) ?_); refine load_blk rfl 40 _ rfl wa.heap.size rfl _ 3 HN.out.1 _ Tryd.underlying40 rfl infoFS3 rfl ?_)
          | (at_builtin; refine push_own HST.out.1 HST.out.2.size Tryd.underlying33 HI.out rfl (by decide) rfl (fs_cells _ _ _ _ _) (by omega) (by decide) rfl _ _ rfl rfl rfl rfl ?_; intro A9 c9 w9 hown hbl hfr; have H9 := Lib.hid (And.intro hown (And.intro hbl hfr)); clear hown hbl hfr))
        go_roundg (n - (j + 1))
        case measure => omega
        case rel =>
          refine ⟨j + 1, A9, c9, by omega, by go_num, rfl, Lib.hid (st_snoc (s := ⟨none, 0, 0, 4, u, []⟩) HH.out.2 HN.out.2 ?_ ?_ ?_ H9.out.1 H9.out.2.1 H9.out.2.2), Lib.hid ((HB.out.below HN.out.2).fr H9.out.2.2)⟩
          · exact HMJ.out
          · exact ⟨.inr (.inr (.inr (.inr (.inl ⟨rfl, names_or _ (by rw [HU.out]; exact pick_mem (by show ((i4 : Nat) : Int).toNat < 4; omega))⟩)))), Nat.zero_le _⟩
          · exact KL.nil _ _ _
    · have hlt : ¬ (j : Int) < (n : Int) := by omega
      go_wp2_with fail
      go_ret
      have hjn : j = n := by omega
      subst hjn
      exact ⟨_, _, ss, rfl, HH.out⟩
end
end Go.Proofs.YtlbnemnadegapaaDoor.Kf
