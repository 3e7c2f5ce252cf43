/- The walk of the registry of algorithms: the entries it holds; no condition. Printed by gen_reg.py. -/
import Derived.Test.YtlbnemnadegapaaDoorNqAll
set_option linter.unusedVariables false
set_option linter.unusedSimpArgs false
namespace Go.Proofs.YtlbnemnadegapaaDoor.Nq
open Go.RowKit Go.Proofs.YtlbnemnadegapaaDoor.K
def f3 (p : ByteArray × Bool × Bool) : List Value := [.string p.1, .bool p.2.1, .bool p.2.2]
theorem flat3_at : ∀ (l : List (ByteArray × Bool × Bool)) (j : Nat) (h : j < l.length), (l.flatMap f3)[j * 3]? = some (.string l[j].1) ∧ (l.flatMap f3)[j * 3 + 1]? = some (.bool l[j].2.1) ∧ (l.flatMap f3)[j * 3 + 2]? = some (.bool l[j].2.2)
  | p :: l, 0, _ => ⟨rfl, rfl, rfl⟩
  | p :: l, j + 1, h => by
    have ih := flat3_at l j (by simpa using h)
    have e : (j + 1) * 3 = j * 3 + 3 := by omega
    rw [e]
    exact ih
theorem at3 {w : World} {b : Nat} {T : TypeId} {cs : Array Value} {l : List (ByteArray × Bool × Bool)} (h : Blk w b T cs) (hl : cs.toList = l.flatMap f3) (ad : Addr) (hA : ad = ⟨b, 0, none⟩) (j : Nat) (hj : j < l.length) :
    w.cell? (ad.add (j * 3)) = some (.string l[j].1) ∧ w.cell? ⟨(ad.add (j * 3)).block, (ad.add (j * 3)).off + 1, none⟩ = some (.bool l[j].2.1) ∧ w.cell? ⟨(ad.add (j * 3)).block, (ad.add (j * 3)).off + 2, none⟩ = some (.bool l[j].2.2) := by
  subst hA
  obtain ⟨h1, h2, h3⟩ := flat3_at l j hj
  rw [← hl, Array.getElem?_toList] at h1 h2 h3
  refine ⟨?_, ?_, ?_⟩
  · rw [add_at, h.cell]; simpa using h1
  · rw [add_at, h.cell]; simpa using h2
  · rw [add_at, h.cell]; simpa using h3
theorem three_cells {w : World} {g : Nat} {T : TypeId} {x y z : Value} (h : Blk w g T #[x, y, z]) : w.cell? ⟨g, 0, none⟩ = some x ∧ w.cell? ⟨g, 1, none⟩ = some y ∧ w.cell? ⟨g, 2, none⟩ = some z :=
  ⟨by rw [h.cell]; rfl, by rw [h.cell]; rfl, by rw [h.cell]; rfl⟩
def ent (k : Int) (T : TypeId) (v : Value) : Value := .agg #[.int .u8 k, .iface T v, .bool true]
def entCE (p : ByteArray × Bool) : ByteArray × Value := (p.1, ent 3 159 (two p.1 p.2))
def entKE (p : ByteArray × Bool × Bool) : ByteArray × Value := (p.1, ent 2 157 (three p.1 p.2.1 p.2.2))
def entSI (p : ByteArray × Bool × Bool) : ByteArray × Value := (p.1, ent 1 156 (three p.1 p.2.1 p.2.2))
def regTab : List (ByteArray × Value) := tabContentEncryption.map entCE ++ (tabKeyEncryption.map entKE ++ tabSignature.map entSI)
set_option maxRecDepth 100000 in
theorem nodupReg : (regTab.map (·.1)).Nodup := by decide
theorem fresh_take (L : List (ByteArray × Value)) (hd : (L.map (·.1)).Nodup) (j : Nat) (h : j < L.length) : ∀ p ∈ L.take j, p.1 ≠ L[j].1 := by
  intro q hq
  obtain ⟨i, hi, e⟩ := List.getElem_of_mem hq
  rw [List.getElem_take] at e
  intro h2
  have hil : i < j := by have := hi; simp at this; omega
  have := List.nodup_iff_pairwise_ne.1 hd
  rw [List.pairwise_iff_getElem] at this
  have h3 := this i j (by simp; omega) (by simpa using h) hil
  simp only [List.getElem_map] at h3
  exact h3 (by rw [e]; exact h2)
theorem reg_step (L : List (ByteArray × Value)) (hd : (L.map (·.1)).Nodup) (k : Nat) (s : ByteArray) (v : Value) (h : L[k]? = some (s, v)) : (∀ p ∈ L.take k, p.1 ≠ s) ∧ L.take (k + 1) = L.take k ++ [(s, v)] := by
  obtain ⟨hk, he⟩ := List.getElem?_eq_some_iff.1 h
  refine ⟨?_, ?_⟩
  · have := fresh_take L hd k hk
    rwa [he] at this
  · rw [List.take_succ_eq_append_getElem hk, he]
theorem regCE (j : Nat) (h : j < tabContentEncryption.length) : regTab[0 + j]? = some (entCE tabContentEncryption[j]) := by
  rw [Nat.zero_add, regTab, List.getElem?_append_left (by simpa using h), List.getElem?_map, List.getElem?_eq_getElem h]; rfl
theorem regKE (j : Nat) (h : j < tabKeyEncryption.length) : regTab[6 + j]? = some (entKE tabKeyEncryption[j]) := by
  have e : (tabContentEncryption.map entCE).length = 6 := rfl
  rw [regTab, List.getElem?_append_right (by omega), e, Nat.add_sub_cancel_left, List.getElem?_append_left (by simpa using h), List.getElem?_map, List.getElem?_eq_getElem h]; rfl
theorem regSI (j : Nat) (h : j < tabSignature.length) : regTab[25 + j]? = some (entSI tabSignature[j]) := by
  have e : (tabContentEncryption.map entCE).length = 6 := rfl
  have e2 : (tabKeyEncryption.map entKE).length = 19 := rfl
  rw [regTab, List.getElem?_append_right (by omega), e, List.getElem?_append_right (by omega), e2, show 25 + j - 6 - 19 = j by omega, List.getElem?_map, List.getElem?_eq_getElem h]; rfl
theorem flatContentEncryption : cellsContentEncryption.toList = tabContentEncryption.flatMap f2 := rfl
theorem flatKeyEncryption : cellsKeyEncryption.toList = tabKeyEncryption.flatMap f3 := rfl
theorem flatSignature : cellsSignature.toList = tabSignature.flatMap f3 := rfl
theorem bi_at {f n : Nat} {T : TypeId} {cs : Array Value} (h : ∀ w : World, Calls Tryd.prog f #[] w fun e w' => e = .returned (.slice (some ⟨w.heap.size, 0, none⟩) n n) ∧ Below w.heap.size w w' ∧ Blk w' w.heap.size T cs) (w : World) :
    Calls Tryd.prog f #[] w fun e w' => ∃ ad b, ad = (⟨b, 0, none⟩ : Addr) ∧ w.heap.size ≤ b ∧ e = .returned (.slice (some ad) n n) ∧ Below w.heap.size w w' ∧ Blk w' b T cs := (h w).mono (by
  rintro e w' ⟨rfl, h1, h2⟩
  exact ⟨_, _, rfl, Nat.le_refl _, rfl, h1, h2⟩)
set_option maxRecDepth 100000 in
set_option maxHeartbeats 4000000 in
theorem algRegistry_calls (w : World) : Calls Tryd.prog 76 #[] w fun e w' => ∃ m, e = .returned (.map (some m)) ∧ w.heap.size ≤ m ∧ Below w.heap.size w w' ∧ MapL w' m regTab := by
  have hmm := @run_makeMap Tryd.prog
  obtain ⟨m, hm⟩ : ∃ m, m = w.heap.size := ⟨_, rfl⟩
  have HL0 := Lib.hid (show MapL (w.alloc (.map #[] 0)) m (regTab.take 0) from hm ▸ MapL.new w)
  have HD0 := Lib.hid (below_alloc' (Below.refl w.heap.size w) (.map #[] 0))
  have HM := Lib.hid hm
  have HBI := Lib.hid (bi_at builtinContentEncryptionAlgorithms_calls (w.alloc (.map #[] 0)))
  go_enter Tryd.func76, Tryd.ntmps76
  go_wp2_with fail
  rw [← hm]
  clear hm
  refine HBI.out.mono ?_
  rintro e w1 ⟨ad, bb, had, hbw, rfl, hB, hb⟩
  have HAD := Lib.hid had
  have hl1 := HL0.out.below hB HL0.out.lt
  have HL1 := Lib.hid hl1
  have HB1 := Lib.hid hb
  have HD1 := Lib.hid (HD0.out.trans (hB.mono HD0.out.size))
  clear HBI hb hB had hl1 HL0 HD0 hbw
  go_wp2
  go_loopg [11] 6 (fun q u wr => ∃ j : Nat, q + j = 6 ∧ u = .int .i64 j ∧ Hid (Below w.heap.size w wr) ∧ Hid (MapL wr m (regTab.take (0 + j))) ∧ Hid (Blk wr bb 159 cellsContentEncryption))
  case atStart => exact ⟨0, rfl, rfl, HD1.out, HL1.out, HB1.out⟩
  case round =>
    clear HL1 HD1 HB1
    obtain ⟨j, hqj, rfl, HD, HL, HB⟩ := hrel
    by_cases hj : j < 6
    · have hjl : j < tabContentEncryption.length := hj
      obtain ⟨c0, c1⟩ := at2 HB.out flatContentEncryption ad HAD.out j hjl
      have hre := regCE j hjl
      obtain ⟨⟨s, d⟩, hp⟩ : ∃ p, p = tabContentEncryption[j] := ⟨_, rfl⟩
      rw [← hp] at c0 c1 hre
      simp only at c0 c1
      clear hp
      have HST := Lib.hid (reg_step regTab nodupReg _ s (ent 3 159 (.agg #[.string s, .bool d])) hre)
      clear hre
      have hbv := Blk.new wr 159 #[.string s, .bool d]
      have HBV : Hid (Blk (wr.alloc (.cells #[.string s, .bool d] 159)).drew wr.heap.size 159 #[.string s, .bool d]) := Lib.hid hbv
      have HDV : Hid (Below w.heap.size w (wr.alloc (.cells #[.string s, .bool d] 159)).drew) := Lib.hid (below_alloc' HD.out _).drew
      have HMV : Hid (MapL (wr.alloc (.cells #[.string s, .bool d] 159)).drew m (regTab.take (0 + j))) := Lib.hid (MapL.below HL.out (below_alloc' (Below.refl wr.heap.size wr) _).drew HL.out.lt)
      have HBL : Hid (Blk (wr.alloc (.cells #[.string s, .bool d] 159)).drew bb 159 cellsContentEncryption) := Lib.hid (HB.out.below (below_alloc' (Below.refl wr.heap.size wr) _).drew HB.out.lt)
      have HS := Lib.hid (ContentEncryptionAlgorithm_String_calls (wr.alloc (.cells #[.string s, .bool d] 159)).drew s d d)
      clear hbv HD HL HB
      go_upto_region 5 with (fail)
      go_region_held3 (fun W => W.cell? ⟨wr.heap.size, 0, none⟩ = some (.string s) ∧ W.cell? ⟨wr.heap.size, 1, none⟩ = some (.bool d)) (first | exact two_cells HBV4.out | exact two_cells HBV3.out | exact two_cells HBV.out) (first
        | ((with_reducible refine Calls.mono HS.out ?_); rintro e w3 ⟨rfl, hB3⟩; have HD3 := Lib.hid (HDV.out.trans (hB3.mono HDV.out.size)); have HBV3 := Lib.hid (HBV.out.below hB3 HBV.out.lt); have HBL3 := Lib.hid (HBL.out.below hB3 HBL.out.lt); have hm3 := HMV.out.below hB3 HMV.out.lt; obtain ⟨w4, hup, hm4, hg4⟩ := run_add Tryd.underlying171 Tryd.underlying9 w3 m _ hm3 s (ent 3 159 (.agg #[.string s, .bool d])) HST.out.1; simp only [ent] at hup; have HM4 := Lib.hid hm4; have HBV4 := Lib.hid (HBV3.out.grown hg4 (fun e => hm3.ne HBV3.out (Option.some.inj e))); have HBL4 := Lib.hid (HBL3.out.grown hg4 (fun e => hm3.ne HBL3.out (Option.some.inj e))); have HD4 := Lib.hid (HD3.out.grown hg4 HD3.out.size (by intro j hj; cases hj; rw [HM.out]; exact Nat.le_refl _)); clear hB3 HS hm3 hm4 hg4))
      all_goals
        go_wp2_with fail
        go_roundg (6 - (j + 1))
        case measure => omega
        case rel => exact ⟨j + 1, by omega, by go_num, HD4, by rw [← Nat.add_assoc, HST.out.2]; exact HM4.out, HBL4⟩
    · obtain rfl : j = 6 := by omega
      have HBI := Lib.hid (bi_at builtinKeyEncryptionAlgorithms_calls wr)
      have HL0 : Hid (MapL wr m (regTab.take 6)) := HL
      have HD0 := HD
      clear HL HD HB HAD
      go_wp2_with fail
      refine HBI.out.mono ?_
      rintro e w2 ⟨ad, bb, had, hbw, rfl, hB, hb⟩
      have HAD := Lib.hid had
      have hl1 := HL0.out.below hB HL0.out.lt
      have HL1 := Lib.hid hl1
      have HB1 := Lib.hid hb
      have HD1 := Lib.hid (HD0.out.trans (hB.mono HD0.out.size))
      clear HBI hb hB had hl1 HL0 HD0 hbw
      go_wp2
      go_loopg [24] 19 (fun q u wr => ∃ j : Nat, q + j = 19 ∧ u = .int .i64 j ∧ Hid (Below w.heap.size w wr) ∧ Hid (MapL wr m (regTab.take (6 + j))) ∧ Hid (Blk wr bb 157 cellsKeyEncryption))
      case atStart => exact ⟨0, rfl, rfl, HD1.out, HL1.out, HB1.out⟩
      case round =>
        clear HL1 HD1 HB1
        obtain ⟨j, hqj, rfl, HD, HL, HB⟩ := hrel
        by_cases hj : j < 19
        · have hjl : j < tabKeyEncryption.length := hj
          obtain ⟨c0, c1, c2⟩ := at3 HB.out flatKeyEncryption ad HAD.out j hjl
          have hre := regKE j hjl
          obtain ⟨⟨s, d, y⟩, hp⟩ : ∃ p, p = tabKeyEncryption[j] := ⟨_, rfl⟩
          rw [← hp] at c0 c1 c2 hre
          simp only at c0 c1 c2
          clear hp
          have HST := Lib.hid (reg_step regTab nodupReg _ s (ent 2 157 (.agg #[.string s, .bool d, .bool y])) hre)
          clear hre
          have hbv := Blk.new wr 157 #[.string s, .bool d, .bool y]
          have HBV : Hid (Blk (wr.alloc (.cells #[.string s, .bool d, .bool y] 157)).drew wr.heap.size 157 #[.string s, .bool d, .bool y]) := Lib.hid hbv
          have HDV : Hid (Below w.heap.size w (wr.alloc (.cells #[.string s, .bool d, .bool y] 157)).drew) := Lib.hid (below_alloc' HD.out _).drew
          have HMV : Hid (MapL (wr.alloc (.cells #[.string s, .bool d, .bool y] 157)).drew m (regTab.take (6 + j))) := Lib.hid (MapL.below HL.out (below_alloc' (Below.refl wr.heap.size wr) _).drew HL.out.lt)
          have HBL : Hid (Blk (wr.alloc (.cells #[.string s, .bool d, .bool y] 157)).drew bb 157 cellsKeyEncryption) := Lib.hid (HB.out.below (below_alloc' (Below.refl wr.heap.size wr) _).drew HB.out.lt)
          have HS := Lib.hid (KeyEncryptionAlgorithm_String_calls (wr.alloc (.cells #[.string s, .bool d, .bool y] 157)).drew s d y)
          clear hbv HD HL HB
          go_upto_region 10 with (fail)
          go_region_held3 (fun W => W.cell? ⟨wr.heap.size, 0, none⟩ = some (.string s) ∧ W.cell? ⟨wr.heap.size, 1, none⟩ = some (.bool d) ∧ W.cell? ⟨wr.heap.size, 2, none⟩ = some (.bool y)) (first | exact three_cells HBV4.out | exact three_cells HBV3.out | exact three_cells HBV.out) (first
            | ((with_reducible refine Calls.mono HS.out ?_); rintro e w3 ⟨rfl, hB3⟩; have HD3 := Lib.hid (HDV.out.trans (hB3.mono HDV.out.size)); have HBV3 := Lib.hid (HBV.out.below hB3 HBV.out.lt); have HBL3 := Lib.hid (HBL.out.below hB3 HBL.out.lt); have hm3 := HMV.out.below hB3 HMV.out.lt; obtain ⟨w4, hup, hm4, hg4⟩ := run_add Tryd.underlying171 Tryd.underlying9 w3 m _ hm3 s (ent 2 157 (.agg #[.string s, .bool d, .bool y])) HST.out.1; simp only [ent] at hup; have HM4 := Lib.hid hm4; have HBV4 := Lib.hid (HBV3.out.grown hg4 (fun e => hm3.ne HBV3.out (Option.some.inj e))); have HBL4 := Lib.hid (HBL3.out.grown hg4 (fun e => hm3.ne HBL3.out (Option.some.inj e))); have HD4 := Lib.hid (HD3.out.grown hg4 HD3.out.size (by intro j hj; cases hj; rw [HM.out]; exact Nat.le_refl _)); clear hB3 HS hm3 hm4 hg4))
          all_goals
            go_wp2_with fail
            go_roundg (19 - (j + 1))
            case measure => omega
            case rel => exact ⟨j + 1, by omega, by go_num, HD4, by rw [← Nat.add_assoc, HST.out.2]; exact HM4.out, HBL4⟩
        · obtain rfl : j = 19 := by omega
          have HBI := Lib.hid (bi_at builtinSignatureAlgorithms_calls wr)
          have HL0 : Hid (MapL wr m (regTab.take 25)) := HL
          have HD0 := HD
          clear HL HD HB HAD
          go_wp2_with fail
          refine HBI.out.mono ?_
          rintro e w3 ⟨ad, bb, had, hbw, rfl, hB, hb⟩
          have HAD := Lib.hid had
          have hl1 := HL0.out.below hB HL0.out.lt
          have HL1 := Lib.hid hl1
          have HB1 := Lib.hid hb
          have HD1 := Lib.hid (HD0.out.trans (hB.mono HD0.out.size))
          clear HBI hb hB had hl1 HL0 HD0 hbw
          go_wp2
          go_loopg [37] 16 (fun q u wr => ∃ j : Nat, q + j = 16 ∧ u = .int .i64 j ∧ Hid (Below w.heap.size w wr) ∧ Hid (MapL wr m (regTab.take (25 + j))) ∧ Hid (Blk wr bb 156 cellsSignature))
          case atStart => exact ⟨0, rfl, rfl, HD1.out, HL1.out, HB1.out⟩
          case round =>
            clear HL1 HD1 HB1
            obtain ⟨j, hqj, rfl, HD, HL, HB⟩ := hrel
            by_cases hj : j < 16
            · have hjl : j < tabSignature.length := hj
              obtain ⟨c0, c1, c2⟩ := at3 HB.out flatSignature ad HAD.out j hjl
              have hre := regSI j hjl
              obtain ⟨⟨s, d, y⟩, hp⟩ : ∃ p, p = tabSignature[j] := ⟨_, rfl⟩
              rw [← hp] at c0 c1 c2 hre
              simp only at c0 c1 c2
              clear hp
              have HST := Lib.hid (reg_step regTab nodupReg _ s (ent 1 156 (.agg #[.string s, .bool d, .bool y])) hre)
              clear hre
              have hbv := Blk.new wr 156 #[.string s, .bool d, .bool y]
              have HBV : Hid (Blk (wr.alloc (.cells #[.string s, .bool d, .bool y] 156)).drew wr.heap.size 156 #[.string s, .bool d, .bool y]) := Lib.hid hbv
              have HDV : Hid (Below w.heap.size w (wr.alloc (.cells #[.string s, .bool d, .bool y] 156)).drew) := Lib.hid (below_alloc' HD.out _).drew
              have HMV : Hid (MapL (wr.alloc (.cells #[.string s, .bool d, .bool y] 156)).drew m (regTab.take (25 + j))) := Lib.hid (MapL.below HL.out (below_alloc' (Below.refl wr.heap.size wr) _).drew HL.out.lt)
              have HBL : Hid (Blk (wr.alloc (.cells #[.string s, .bool d, .bool y] 156)).drew bb 156 cellsSignature) := Lib.hid (HB.out.below (below_alloc' (Below.refl wr.heap.size wr) _).drew HB.out.lt)
              have HS := Lib.hid (SignatureAlgorithm_String_calls (wr.alloc (.cells #[.string s, .bool d, .bool y] 156)).drew s d y)
              clear hbv HD HL HB
              go_upto_region 15 with (fail)
              go_region_held3 (fun W => W.cell? ⟨wr.heap.size, 0, none⟩ = some (.string s) ∧ W.cell? ⟨wr.heap.size, 1, none⟩ = some (.bool d) ∧ W.cell? ⟨wr.heap.size, 2, none⟩ = some (.bool y)) (first | exact three_cells HBV4.out | exact three_cells HBV3.out | exact three_cells HBV.out) (first
                | ((with_reducible refine Calls.mono HS.out ?_); rintro e w3 ⟨rfl, hB3⟩; have HD3 := Lib.hid (HDV.out.trans (hB3.mono HDV.out.size)); have HBV3 := Lib.hid (HBV.out.below hB3 HBV.out.lt); have HBL3 := Lib.hid (HBL.out.below hB3 HBL.out.lt); have hm3 := HMV.out.below hB3 HMV.out.lt; obtain ⟨w4, hup, hm4, hg4⟩ := run_add Tryd.underlying171 Tryd.underlying9 w3 m _ hm3 s (ent 1 156 (.agg #[.string s, .bool d, .bool y])) HST.out.1; simp only [ent] at hup; have HM4 := Lib.hid hm4; have HBV4 := Lib.hid (HBV3.out.grown hg4 (fun e => hm3.ne HBV3.out (Option.some.inj e))); have HBL4 := Lib.hid (HBL3.out.grown hg4 (fun e => hm3.ne HBL3.out (Option.some.inj e))); have HD4 := Lib.hid (HD3.out.grown hg4 HD3.out.size (by intro j hj; cases hj; rw [HM.out]; exact Nat.le_refl _)); clear hB3 HS hm3 hm4 hg4))
              all_goals
                go_wp2_with fail
                go_roundg (16 - (j + 1))
                case measure => omega
                case rel => exact ⟨j + 1, by omega, by go_num, HD4, by rw [← Nat.add_assoc, HST.out.2]; exact HM4.out, HBL4⟩
            · obtain rfl : j = 16 := by omega
              have HMf := Lib.hid (show MapL wr m regTab from HL.out)
              go_wp2
              go_ret
              exact ⟨m, rfl, by rw [HM.out]; exact Nat.le_refl _, HD.out, HMf.out⟩
end Go.Proofs.YtlbnemnadegapaaDoor.Nq
