/- The maps of the named algorithms of the last three kinds; no condition. -/
import Derived.Test.YtlbnemnadegapaaDoorNqMap
import Derived.Deep.Cut
import Derived.Deep.CutBlock
import Derived.Deep.CutRange
import Derived.Deep.DeepCutAuto
import Derived.Deep.RegionHeld3
set_option linter.unusedVariables false
set_option linter.unusedSimpArgs false
namespace Go.Proofs.YtlbnemnadegapaaDoor.Nq
open Go.RowKit Go.Proofs.YtlbnemnadegapaaDoor.K
def f2 (p : ByteArray × Bool) : List Value := [.string p.1, .bool p.2]
theorem flat2_at : ∀ (l : List (ByteArray × Bool)) (j : Nat) (h : j < l.length), (l.flatMap f2)[j * 2]? = some (.string l[j].1) ∧ (l.flatMap f2)[j * 2 + 1]? = some (.bool l[j].2)
  | p :: l, 0, _ => ⟨rfl, rfl⟩
  | p :: l, j + 1, h => by
    have ih := flat2_at l j (by simpa using h)
    have e : (j + 1) * 2 = j * 2 + 2 := by omega
    rw [e]
    exact ih
def ents2 (l : List (ByteArray × Bool)) : List (ByteArray × Value) := l.map fun p => (p.1, two p.1 p.2)
theorem fresh2 (l : List (ByteArray × Bool)) (hd : (l.map (·.1)).Nodup) (j : Nat) (h : j < l.length) : ∀ p ∈ ents2 (l.take j), p.1 ≠ l[j].1 := by
  intro p hp
  obtain ⟨q, hq, rfl⟩ := List.mem_map.1 hp
  obtain ⟨i, hi, e⟩ := List.getElem_of_mem hq
  rw [List.getElem_take] at e
  intro h2
  have hil : i < j := by have := hi; simp at this; omega
  have hnd := hd
  have := (List.nodup_iff_pairwise_ne.1 hnd)
  rw [List.pairwise_iff_getElem] at this
  have h3 := this i j (by simp; omega) (by simpa using h) hil
  simp only [List.getElem_map] at h3
  exact h3 (by rw [e]; exact h2)
theorem ents2_step (l : List (ByteArray × Bool)) (j : Nat) (h : j < l.length) : ents2 (l.take (j + 1)) = ents2 (l.take j) ++ [(l[j].1, two l[j].1 l[j].2)] := by
  unfold ents2
  rw [List.take_succ_eq_append_getElem h, List.map_append]
  rfl
theorem two_cells {w : World} {g : Nat} {T : TypeId} {x y : Value} (h : Blk w g T #[x, y]) : w.cell? ⟨g, 0, none⟩ = some x ∧ w.cell? ⟨g, 1, none⟩ = some y := ⟨by rw [h.cell]; rfl, by rw [h.cell]; rfl⟩
theorem at2 {w : World} {b : Nat} {T : TypeId} {cs : Array Value} {l : List (ByteArray × Bool)} (h : Blk w b T cs) (hl : cs.toList = l.flatMap f2) (ad : Addr) (hA : ad = ⟨b, 0, none⟩) (j : Nat) (hj : j < l.length) :
    w.cell? (ad.add (j * 2)) = some (.string l[j].1) ∧ w.cell? ⟨(ad.add (j * 2)).block, (ad.add (j * 2)).off + 1, none⟩ = some (.bool l[j].2) := by
  subst hA
  obtain ⟨h1, h2⟩ := flat2_at l j hj
  rw [← hl, Array.getElem?_toList] at h1 h2
  refine ⟨?_, ?_⟩
  · rw [add_at, h.cell]; simpa using h1
  · rw [add_at, h.cell]; simpa using h2
theorem flatKeyType : cellsKeyType.toList = tabKeyType.flatMap f2 := rfl
theorem nodupKeyType : (tabKeyType.map (·.1)).Nodup := by decide
set_option maxRecDepth 100000 in
set_option maxHeartbeats 1000000 in
theorem allKeyType_calls (w : World) : Calls Tryd.prog 118 #[] w fun e w' => ∃ m, e = .returned (.map (some m)) ∧ w.heap.size ≤ m ∧ Below w.heap.size w w' ∧ MapL w' m (ents2 tabKeyType) := by
  have hmm := @run_makeMap Tryd.prog
  obtain ⟨tb, htb⟩ : ∃ tb, tb = tabKeyType := ⟨_, rfl⟩
  have hlen : tb.length = 4 := by rw [htb]; rfl
  have HN := Lib.hid (show (tb.map (·.1)).Nodup by rw [htb]; exact nodupKeyType)
  have HFl := Lib.hid (show cellsKeyType.toList = tb.flatMap f2 by rw [htb]; rfl)
  rw [← htb]
  clear htb
  obtain ⟨bb, hbb⟩ : ∃ bb, bb = (w.alloc (.map #[] 0)).heap.size := ⟨_, rfl⟩
  have hbi : Calls Tryd.prog 119 #[] (w.alloc (.map #[] 0)) fun e w' => ∃ ad, ad = (⟨bb, 0, none⟩ : Addr) ∧ e = .returned (.slice (some ad) 4 4) ∧ Below (w.alloc (.map #[] 0)).heap.size (w.alloc (.map #[] 0)) w' ∧ Blk w' bb 207 cellsKeyType := (builtinKeyTypes_calls (w.alloc (.map #[] 0))).mono (by
    rintro e w' ⟨rfl, h1, h2⟩
    rw [hbb]
    exact ⟨_, rfl, rfl, h1, h2⟩)
  have HBB := Lib.hid hbb
  clear hbb
  have HBI := Lib.hid hbi
  clear hbi
  go_enter Tryd.func118, Tryd.ntmps118
  go_wp2_with fail
  refine HBI.out.mono ?_
  rintro e w1 ⟨ad, had, rfl, hB1, hb1⟩
  have HAD := Lib.hid had
  clear had
  have hm1 : MapL w1 w.heap.size [] := (MapL.new w).below hB1 (MapL.new w).lt
  have HM1 := Lib.hid hm1
  have HB1 := Lib.hid hb1
  have HD1 := Lib.hid (below_then (below_alloc' (Below.refl w.heap.size w) _) hB1)
  clear HBI hm1 hb1 hB1
  go_wp2
  go_loopg [7] 4 (fun q u wr => ∃ j : Nat, q + j = 4 ∧ u = .int .i64 j ∧ Hid (Below w.heap.size w wr) ∧ Hid (MapL wr w.heap.size (ents2 (tb.take j))) ∧ Hid (Blk wr bb 207 cellsKeyType))
  case atStart => exact ⟨0, rfl, rfl, HD1.out, HM1.out, HB1.out⟩
  case round =>
    obtain ⟨j, hqj, rfl, HD, HM, HB⟩ := hrel
    by_cases hj : j < 4
    · have hjl : j < tb.length := by omega
      obtain ⟨c0, c1⟩ := at2 HB.out HFl.out ad HAD.out j hjl
      have hfr := fresh2 tb HN.out j hjl
      have hst := ents2_step tb j hjl
      obtain ⟨⟨s, d⟩, hp⟩ : ∃ p, p = tb[j] := ⟨_, rfl⟩
      rw [← hp] at c0 c1 hfr hst
      simp only at c0 c1 hfr hst
      clear hp
      have HFR := Lib.hid hfr
      have HST := Lib.hid hst
      clear hfr hst
      have hbv := Blk.new wr 207 #[.string s, .bool d]
      have HBV : Hid (Blk (wr.alloc (.cells #[.string s, .bool d] 207)).drew wr.heap.size 207 #[.string s, .bool d]) := Lib.hid hbv
      have HDV : Hid (Below w.heap.size w (wr.alloc (.cells #[.string s, .bool d] 207)).drew) := Lib.hid (below_alloc' HD.out _).drew
      have HMV : Hid (MapL (wr.alloc (.cells #[.string s, .bool d] 207)).drew w.heap.size (ents2 (tb.take j))) := Lib.hid (MapL.below HM.out (below_alloc' (Below.refl wr.heap.size wr) _).drew HM.out.lt)
      have HBL : Hid (Blk (wr.alloc (.cells #[.string s, .bool d] 207)).drew bb 207 cellsKeyType) := Lib.hid (HB.out.below (below_alloc' (Below.refl wr.heap.size wr) _).drew HB.out.lt)
      have HS := Lib.hid (KeyType_String_calls (wr.alloc (.cells #[.string s, .bool d] 207)).drew s d d)
      clear hbv
      go_upto_region 5 with (fail)
      go_region_held3 (fun W => W.cell? ⟨wr.heap.size, 0, none⟩ = some (.string s) ∧ W.cell? ⟨wr.heap.size, 1, none⟩ = some (.bool d)) (first | exact two_cells HBV4.out | exact two_cells HBV3.out | exact two_cells HBV.out) (first
        | ((with_reducible refine Calls.mono HS.out ?_); rintro e w3 ⟨rfl, hB3⟩; have HD3 := Lib.hid (HDV.out.trans (hB3.mono HDV.out.size)); have HBV3 := Lib.hid (HBV.out.below hB3 HBV.out.lt); have HBL3 := Lib.hid (HBL.out.below hB3 HBL.out.lt); have hm3 := HMV.out.below hB3 HMV.out.lt; obtain ⟨w4, hup, hm4, hg4⟩ := run_add Tryd.underlying211 Tryd.underlying9 w3 w.heap.size _ hm3 s (two s d) HFR.out; have HM4 := Lib.hid hm4; have HBV4 := Lib.hid (HBV3.out.grown hg4 (fun e => hm3.ne HBV3.out (Option.some.inj e))); have HBL4 := Lib.hid (HBL3.out.grown hg4 (fun e => hm3.ne HBL3.out (Option.some.inj e))); have HD4 := Lib.hid (HD3.out.grown hg4 HD3.out.size (by intro j hj; cases hj; exact Nat.le_refl _)); clear hB3 HS hm3 hm4 hg4))
      all_goals
        go_wp2_with fail
        go_roundg (4 - (j + 1))
        case measure => omega
        case rel => exact ⟨j + 1, by omega, by go_num, HD4, by rw [HST.out]; exact HM4.out, HBL4⟩
    · obtain rfl : j = 4 := by omega
      have HMf := Lib.hid (show MapL wr w.heap.size (ents2 tb) by have := HM.out; rwa [List.take_of_length_le (by omega)] at this)
      go_wp2
      go_ret
      exact ⟨w.heap.size, rfl, Nat.le_refl _, HD.out, HMf.out⟩
end Go.Proofs.YtlbnemnadegapaaDoor.Nq
