/- The walk of impl.filled for a token of jwt; the conditions are on sizes alone. -/
import Derived.Test.YtlahgmfpdfblkaaGreatClFill
import Derived.Test.YtlahgmfpdfblkaaGreatClShort2
set_option linter.unusedVariables false
set_option linter.unusedSimpArgs false
namespace Go.Proofs.YtlahgmfpdfblkaaGreat.Cl
open Go.RowKit Go.Proofs.YtlahgmfpdfblkaaGreat.K
def FilPost (w : World) (fs : List Fd) (e : Ending) (w' : World) : Prop := ∃ g, e = .returned (.iface 99 (.pointer (some ⟨g, 0, none⟩))) ∧ TokS w w' g (stF fs st0) ∧ w.heap.size ≤ g ∧ Below w.heap.size w w'
set_option maxRecDepth 100000 in
set_option maxHeartbeats 4000000 in
theorem filled_calls (w : World) (A : Option Addr) (n c : Nat) (fs : List Fd) (h : FL w A n fs) (hn : ∀ f ∈ fs, f.n ≤ 100000) (hn0 : n ≤ 100000) :
    Calls Tryz.prog 16 #[.int .i64 2, .slice A n c] w (FilPost w fs) := by
  have hna : ∀ (W : World) (g : Nat), Sem.run Tryz.prog (nilAhead 270 99 (.pointer (some ⟨g, 0, none⟩)) "Set") W = .ok (some false) W := fun W g => by kernel_rfl
  have hms : ∀ (W : World) (g : Nat), (method 270 99 (.pointer (some ⟨g, 0, none⟩)) "Set").run Tryz.prog W = .ok (144, .pointer (some ⟨g, 0, none⟩)) W := fun W g => by kernel_rfl
  have HF := Lib.hid h
  have HN := Lib.hid (And.intro h.len hn)
  have HNW := Lib.hid (fresh_calls w)
  clear h hn
  go_enter Tryz.func16, Tryz.ntmps16
  go_wp2_with fail
  refine HNW.out.mono ?_
  rintro e w1 ⟨g, rfl, ht1, hg1, hB1⟩
  have HT1 := Lib.hid ht1
  have HB1 := Lib.hid hB1
  have HG1 := Lib.hid hg1
  clear ht1 hB1 hg1 HNW
  go_wp2
  go_loopg [12] n (fun q u12 wr => ∃ j : Nat, q + j = n ∧ u12 = .int .i64 j ∧ Hid (TokS w wr g (stF (fs.take j) st0)) ∧ Hid (Below w.heap.size w wr))
  case atStart => exact ⟨0, rfl, rfl, HT1, HB1⟩
  case round =>
    obtain ⟨j, hqj, rfl, HT, HB⟩ := hrel
    by_cases hj : j < n
    · have hjl : j < fs.length := by have := HN.out.1; omega
      obtain ⟨ad, rfl, y0, y1, y2, y3, y4, y5, hsl⟩ := (HF.out.below HB.out (Nat.le_refl _)).at_ hjl
      have hfn : fs[j].n ≤ 100000 := HN.out.2 _ (List.getElem_mem hjl)
      have HST := Lib.hid (stF_step fs st0 j hjl)
      obtain ⟨f, hf⟩ : ∃ f, f = fs[j] := ⟨_, rfl⟩
      rw [← hf] at y0 y1 y2 y3 y4 y5 hsl hfn HST
      obtain ⟨nm, k, t, b, z, A1, n1, c1, l1⟩ := f
      simp only at y0 y1 y2 y3 y4 y5 hsl hfn HST
      have HSL := Lib.hid hsl
      clear hf hsl
      obtain ⟨wF, hwF⟩ : ∃ wF, wF = wr.alloc (.cells #[.string nm, .int .i64 k, .string t, .bool b, .int .i32 z, .slice A1 n1 c1] 36) := ⟨_, rfl⟩
      have hBF : Below wr.heap.size wr wF := by rw [hwF]; exact below_alloc' (Below.refl wr.heap.size wr) _
      have hKF : Blk wF wr.heap.size 36 #[.string nm, .int .i64 k, .string t, .bool b, .int .i32 z, .slice A1 n1 c1] := by rw [hwF]; exact Blk.new wr _ _
      have HBF := Lib.hid (below_then HB.out hBF)
      have HKF := Lib.hid hKF
      have HTF := Lib.hid (HT.out.below hBF)
      have HSLF := Lib.hid (HSL.out.below hBF (Nat.le_refl _))
      have HGS := Lib.hid (show wr.heap.size ≠ g by have := HT.out.lt; omega)
      clear hBF hKF
      go_upto_region 5 with (fail)
      rw [← hwF]
      clear hwF
      obtain ⟨st, hst⟩ : ∃ st, st = stF (fs.take j) st0 := ⟨_, rfl⟩
      rw [← hst] at HTF HST
      have HV := Lib.hid (value_form wF.drew k t b z A1 n1 c1 l1 HSLF.out hfn)
      have HTD : Hid (TokS w wF.drew g st) := HTF
      have HKD : Hid (Blk wF.drew wr.heap.size 36 #[.string nm, .int .i64 k, .string t, .bool b, .int .i32 z, .slice A1 n1 c1]) := HKF
      clear hst y0 y1 y2 y3 y4 y5
      go_region_held3 (fun W => W.cell? ⟨wr.heap.size, 0, none⟩ = some (.string nm) ∧ W.cell? ⟨wr.heap.size, 1, none⟩ = some (.int .i64 k) ∧ W.cell? ⟨wr.heap.size, 2, none⟩ = some (.string t) ∧ W.cell? ⟨wr.heap.size, 3, none⟩ = some (.bool b) ∧ W.cell? ⟨wr.heap.size, 4, none⟩ = some (.int .i32 z) ∧ W.cell? ⟨wr.heap.size, 5, none⟩ = some (.slice A1 n1 c1)) (first | exact six_cells HK4.out | exact six_cells HK3.out | exact six_cells HKD.out) (first
        | ((with_reducible refine Calls.mono HV.out ?_); rintro e w3 ⟨v, rfl, hvf, hB3⟩; have HB3 := Lib.hid (HBF.out.drew.trans (hB3.mono HBF.out.size)); have HK3 := Lib.hid (HKD.out.below hB3 HKD.out.lt); have HS := Lib.hid (Set_calls w3 g nm v _ (set_any w w3 g st v _ hvf HB3.out HG1.out (HTD.out.below hB3) nm) (fun e w' h => h.1)); clear hB3 HV hvf)
        | ((with_reducible refine Calls.mono HS.out ?_); rintro e w4 ⟨⟨u4, rfl⟩, hB4, ht4, hfr⟩; have HB4 := Lib.hid hB4; have HK4 := Lib.hid (hfr _ _ _ HK3.out HGS.out); have HT4 := Lib.hid ht4; clear hB4 ht4 hfr HS))
      all_goals
        go_wp2_with fail
        go_roundg (n - (j + 1))
        case measure => omega
        case rel =>
          refine ⟨j + 1, by omega, by go_num, ?_, HB4⟩
          show TokS _ _ _ _
          rw [HST.out]
          exact HT4.out
    · obtain rfl : j = n := by omega
      have hfin : stF (fs.take j) st0 = stF fs st0 := by rw [List.take_of_length_le (by have := HN.out.1; omega)]
      rw [hfin] at HT
      go_wp2
      go_ret
      exact ⟨g, rfl, HT.out, HG1.out, HB.out⟩
end Go.Proofs.YtlahgmfpdfblkaaGreat.Cl
