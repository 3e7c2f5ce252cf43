/- The walk of the reference's PartSplit: how many parts it tells; no condition but the size. -/
import Derived.Test.YtimicibalhaljaaDoorB64New
import Derived.Laws.OwnMore
import Derived.OneCell
import Derived.Lib.SmallJoins
set_option linter.unusedVariables false
set_option linter.unusedSimpArgs false
namespace Go.Proofs.YtimicibalhaljaaDoor.B64
open Go.RowKit Go.Proofs.YtimicibalhaljaaDoor.K Go.Proofs.YtimicibalhaljaaDoor.Own
def dots (l : List UInt8) : Nat := (l.filter (· == 46)).length
theorem dots_le (l : List UInt8) : dots l ≤ l.length := List.length_filter_le _ _
theorem dots_step (l : List UInt8) (k : Nat) (h : k < l.length) : dots (l.take (k + 1)) = dots (l.take k) + (if bt l k = 46 then 1 else 0) := by
  unfold dots
  rw [List.take_succ_eq_append_getElem h, List.filter_append, List.length_append, ← bt_get _ _ h]
  by_cases e : bt l k = 46 <;> simp [e]
theorem dots_zero {l : List UInt8} (h : dots l = 0) : ∀ c ∈ l, c ≠ 46 := by
  intro c hc e
  have := List.eq_nil_of_length_eq_zero h
  have hm : c ∈ l.filter (· == 46) := List.mem_filter.2 ⟨hc, by simp [e]⟩
  rw [this] at hm
  cases hm
theorem info_sl : (Tryd.prog.info? 22).map (fun i => (i.zero, i.size, i.bytes)) = some (some (.slice none 0 0), 1, 24) := by kernel_rfl
def SplitPost (w : World) (K : Nat) (e : Ending) (w' : World) : Prop := ∃ A c, e = .returned (.slice A K c) ∧ Below w.heap.size w w'
/-- The slice of slices that is grown: how many there are; the last one is the call's own. -/
def SR (w : World) (l : List UInt8) (k : Nat) (v : Value) (wr : World) : Prop :=
  ∃ D g cap L, v = .slice (some ⟨g, 0, none⟩) (D + 1) cap ∧ D ≤ k ∧ L ≤ k ∧ Hid (D = dots (l.take k)) ∧ Hid (∃ xs u lb, wr.ownsRow w.heap.size 22 1 v (D + 1) xs ∧ xs[D]? = some u ∧ wr.ownsRow w.heap.size 5 1 u L (bys lb)) ∧ Hid (Below w.heap.size w wr)
theorem below_of_grown' {B g i : Nat} {w w1 w3 : World} {r : Option Nat} (h : Below B w w1) (hg : w1.grownBy w3 r) (hs : B ≤ w1.heap.size) (hr : ∀ j, r = some j → B ≤ j) (hgB : B ≤ g) (u : Value) (sp : Option Nat) : Below B w (w3.setCell ⟨g, i, none⟩ u) :=
  (h.grown hg hs hr).grown (setCell_grown w3 ⟨g, i, none⟩ u) (by have := hg.size; omega) (by intro j hj; cases hj; exact hgB)
set_option maxRecDepth 100000 in
set_option maxHeartbeats 4000000 in
theorem PartSplit_calls (w : World) (A : Option Addr) (n c K : Nat) (l : List UInt8) (h : RB w A n l) (hn : n ≤ 100000) (hK : K = dots l + 1) :
    Calls Tryd.prog 5 #[.slice A n c] w (SplitPost w K) := by
  have HR := Lib.hid h
  have HL := Lib.hid h.len
  have HK := Lib.hid hK
  obtain ⟨i0, hi, hz0, hz1, hz2⟩ := info_parts info_u8
  have HI := Lib.hid (And.intro hi (And.intro hz0 (And.intro hz1 hz2)))
  obtain ⟨i1, hi1, hy0, hy1, hy2⟩ := info_parts info_sl
  have HJ := Lib.hid (And.intro hi1 (And.intro hy0 (And.intro hy1 hy2)))
  clear h hK hi hz0 hz1 hz2 hi1 hy0 hy1 hy2
  have HS0 : Hid (SR w l 0 (.slice (some ⟨w.heap.size + 1, 0, none⟩) 1 1) ((w.alloc (.cells #[] 5)).alloc (.cells #[.slice (some ⟨w.heap.size, 0, none⟩) 0 0] 22))) := Lib.hid (by
    refine ⟨0, w.heap.size + 1, 1, 0, rfl, Nat.le_refl _, Nat.le_refl _, rfl, ⟨[.slice (some ⟨w.heap.size, 0, none⟩) 0 0], .slice (some ⟨w.heap.size, 0, none⟩) 0 0, [], ?_, rfl, ?_⟩, below_alloc' (below_alloc' (Below.refl _ _) _) _⟩
    · have := World.ownsRow_lit (base := w.heap.size) (e := 22) (size := 1) (w.alloc (.cells #[] 5)) #[.slice (some ⟨w.heap.size, 0, none⟩) 0 0] 1 (by simp) (by decide) rfl
      rwa [show (w.alloc (.cells #[] 5)).heap.size = w.heap.size + 1 from by simp] at this
    · exact (own_empty w 5 1).alloc _)
  go_enter Tryd.func5, Tryd.ntmps5
  go_wp2
  go_loopg [3, 10] n (fun q u3 u10 wr => ∃ k : Nat, q + k = n ∧ u10 = .int .i64 k ∧ SR w l k u3 wr)
  case atStart => exact ⟨0, rfl, rfl, HS0.out⟩
  case round =>
    obtain ⟨k, hqk, rfl, D, g, cap, L, rfl, hDk, hLk, HD, HX, HB⟩ := hrel
    by_cases hlt : k < n
    · have hr3 := HR.out.below HB.out (Nat.le_refl _)
      obtain ⟨ad, rfl, hcl⟩ := hr3.bt hlt
      have HST := Lib.hid (dots_step l k (by have := HL.out; omega))
      obtain ⟨p, hp⟩ : ∃ p, p = (bt l k).toNat := ⟨_, rfl⟩
      rw [← hp] at hcl
      have HP := Lib.hid hp
      clear hp hr3
      by_cases h46 : p = 46
      · subst h46
        have hc' : wr.cell? (ad.add k) = some (.int .u8 46) := hcl
        clear hcl
        obtain ⟨xs, u, lb, HO, hu, HU⟩ := HX.out
        have HO := Lib.hid HO
        clear hu HU HX
        have hgs := Lib.hid (HO.out.lt g rfl)
        go_wp2_with (at_builtin; refine wpList_append_any _ rfl (.tmp 16) (.tmp 18) 24 rfl w.heap.size 22 i1 (.slice none 0 0) 1 24 Tryd.underlying24 HJ.out.1 HJ.out.2.1 HJ.out.2.2.1 HJ.out.2.2.2 rfl (by decide) _ (D + 1) xs rfl ((HO.out.alloc _).alloc _) (some ⟨wr.heap.size + 1, 0, none⟩) 1 1 [.slice (some ⟨wr.heap.size, 0, none⟩) 0 0] rfl (by have := reads_lit (wr.alloc (.cells #[] 5)) 1 1 [.slice (some ⟨wr.heap.size, 0, none⟩) 0 0] #[.slice (some ⟨wr.heap.size, 0, none⟩) 0 0] rfl rfl 22; rwa [show (wr.alloc (.cells #[] 5)).heap.size = wr.heap.size + 1 from by simp] at this) (by intro u hu; simp only [List.mem_singleton] at hu; subst hu; rfl) (by unfold maxLen; omega) (by omega) (by have := HB.out.size; simp; omega) ?_; intro v3 w3 hown3 hg3 hat3; have HO3 := Lib.hid hown3; have HG3 := Lib.hid hg3; obtain ⟨g3, cap3, rfl⟩ := Joins.ownsRow_form hown3 (by omega); clear hown3 hg3 hat3)
        go_roundg (n - (k + 1))
        case measure => omega
        case rel =>
          refine ⟨k + 1, by omega, by go_num, D + 1, g3, cap3, 0, rfl, by omega, by omega, ?_, ⟨xs ++ [.slice (some ⟨wr.heap.size, 0, none⟩) 0 0], .slice (some ⟨wr.heap.size, 0, none⟩) 0 0, [], HO3.out, ?_, ?_⟩, ?_⟩
          · show D + 1 = _
            rw [HST.out, if_pos (UInt8.toNat_inj.1 HP.out.symm), HD.out]
          · have := HO.out.1
            rw [List.getElem?_append_right (by omega)]
            simp [this]
          · exact own_base ((((own_empty wr 5 1).alloc _)).kept HG3.out (Or.inr (fun e => by have h1 := hgs.out; have e2 : wr.heap.size = g := Option.some.inj e; omega))) HB.out.size
          · exact (below_alloc' (below_alloc' HB.out _) _).grown HG3.out (by have := HB.out.size; simp; omega) (by intro j hj; exact own_block_ge HO.out j hj)
      · have b46 : ((p : Int) == 46) = false := by rw [beq_eq_false_iff_ne]; omega
        have H46 := Lib.hid h46
        clear h46
        obtain ⟨xs, u, lb, HO, hu, HU⟩ := HX.out
        obtain ⟨Au, cu, rfl, hcu, _⟩ := own_form HU
        have hcD : wr.cell? ⟨g, D, none⟩ = some (.slice Au L cu) := by rw [HO.cellAt D (by omega)]; exact hu
        have HO := Lib.hid HO
        have HU := Lib.hid HU
        have hxl := Lib.hid hu
        clear hu HX
        have hm1 : ((D : Int) + 1 - 1) = (D : Int) := by omega
        obtain ⟨bb, hbb⟩ : ∃ bb, bb = bt l k := ⟨_, rfl⟩
        have hpb : p = bb.toNat := by rw [HP.out, hbb]
        subst hpb
        clear hbb
        go_wp2_with (at_builtin; refine wpList_append_any _ rfl (.tmp 29) (.tmp 31) 22 rfl w.heap.size 5 i0 (.int .u8 0) 1 1 Tryd.underlying22 HI.out.1 HI.out.2.1 HI.out.2.2.1 HI.out.2.2.2 rfl (by decide) _ L (bys lb) rfl (HU.out.alloc _) (some ⟨wr.heap.size, 0, none⟩) 1 1 (bys [bb]) rfl (rb_lit wr [bb] 1 _ rfl rfl _) (bys_one _) (by unfold maxLen; omega) (by omega) (by have := HB.out.size; simp; omega) ?_; intro v3 w3 hown3 hg3 hat3; have HO3 := Lib.hid hown3; have HG3 := Lib.hid hg3; obtain ⟨Av, cv, rfl, hcv, _⟩ := own_form hown3; have HOut3 := Lib.hid ((HO.out.alloc (.cells #[.int .u8 (bb.toNat : Nat)] 5)).kept hg3 (own_type_ne HO.out HU.out (by decide))); have hcell3 : w3.cell? ⟨g, D, none⟩ = some (.slice Au L cu) := (by rw [HOut3.out.cellAt D (by omega)]; exact hxl.out); have hfr3 : w3.frozen? ⟨g, D, none⟩ = false := HOut3.out.frozenAt D; clear hown3 hg3 hat3 hcv)
        go_roundg (n - (k + 1))
        case measure => omega
        case rel =>
          have hst := HOut3.out.stored D (.slice Av (L + 1) cv)
          refine ⟨k + 1, by omega, by go_num, D, g, cap, L + 1, rfl, by omega, by omega, ?_, ⟨xs.set D (.slice Av (L + 1) cv), .slice Av (L + 1) cv, lb ++ [bb], hst.1, ?_, ?_⟩, ?_⟩
          · show D = _
            rw [HST.out, if_neg (fun e => H46.out (by rw [HP.out, e]; rfl)), HD.out]; rfl
          · rw [List.getElem?_set_self (by have := HOut3.out.1; omega)]
          · rw [bys_append]
            refine ownsRow_setCell_other HO3.out (fun e => ?_) _
            rcases own_type_ne HO3.out HOut3.out (by decide) with h0 | h0
            · rw [h0] at e; cases e
            · exact h0 (by rw [e]; rfl)
          · exact below_of_grown' (below_alloc' HB.out _) HG3.out (by have := HB.out.size; simp; omega) (by intro j hj; exact own_block_ge HU.out j hj) (by have := (HO.out.lt g rfl).1; exact this) _ none
    · obtain rfl : k = n := by omega
      have hfin : D + 1 = K := by
        have := HD.out
        rw [List.take_of_length_le (by have := HL.out; omega)] at this
        rw [HK.out, this]
      subst hfin
      go_wp2
      go_ret
      exact ⟨_, _, rfl, HB.out⟩
end Go.Proofs.YtimicibalhaljaaDoor.B64
