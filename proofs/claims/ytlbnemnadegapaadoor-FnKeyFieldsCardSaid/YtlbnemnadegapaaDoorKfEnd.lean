/- slices.Clone over steps; laws.fieldEnd; the conditions are on what lies in memory. -/
import Derived.Test.YtlbnemnadegapaaDoorKfLive
import Derived.Test.YtlbnemnadegapaaDoorKfSteps
set_option linter.unusedVariables false
set_option linter.unusedSimpArgs false
namespace Go.Proofs.YtlbnemnadegapaaDoor.Kf
open Go.RowKit Go.Proofs.YtlbnemnadegapaaDoor.K Go.Proofs.YtlbnemnadegapaaDoor.Nm Go.Proofs.YtlbnemnadegapaaDoor.Ky
theorem fc_one (ss : List FS) : ∀ u ∈ flat fc ss, u.oneCell' = true := by
  induction ss with
  | nil => intro u hu; cases hu
  | cons s r ih =>
    intro u hu
    rw [flat] at hu
    rcases List.mem_append.1 hu with hu | hu
    · simp only [fc, List.mem_cons, List.not_mem_nil, or_false] at hu
      rcases hu with rfl | rfl | rfl <;> rfl
    · exact ih u hu
section
variable {w w' : World}
theorem FSL.nil_ {A : Option Addr} {n : Nat} {ss : List FS} (h : FSL w A n ss) (hA : A = none) : n = 0 ∧ ss = [] := by
  subst hA
  have hn : n = 0 := by
    rcases Nat.eq_zero_or_pos n with h0 | h0
    · exact h0
    · obtain ⟨ad, e, _⟩ := h.1.2 h0
      cases e
  have := h.len
  exact ⟨hn, List.length_eq_zero_iff.1 (by omega)⟩
def ClonedS (w : World) (n : Nat) (ss : List FS) (e : Ending) (w' : World) : Prop := ∃ A c, e = .returned (.slice A n c) ∧ w'.ownsRow w.heap.size 40 3 (.slice A n c) n (flat fc ss) ∧ Below w.heap.size w w'
set_option maxRecDepth 100000 in
set_option maxHeartbeats 1000000 in
theorem CloneS_calls (A : Option Addr) (n c : Nat) (ss : List FS) (h : FSL w A n ss) (hnil : A = none → c = 0) (hn : n ≤ 1000) : Calls Tryd.prog 35 #[.slice A n c] w (ClonedS w n ss) := by
  obtain ⟨i0, hi, hz0, hz1, hz2⟩ := info_parts infoFS
  have HI := Lib.hid (And.intro hi (And.intro hz0 (And.intro hz1 hz2)))
  have HR := Lib.hid h
  have HE := Lib.hid (show (w.alloc (.cells #[] 40)).ownsRow w.heap.size 40 3 (.slice (some ⟨w.heap.size, 0, none⟩) 0 0) 0 [] from K.own_empty w 40 3)
  clear hi hz0 hz1 hz2
  cases A with
  | none =>
    obtain ⟨rfl, rfl⟩ := h.nil_ rfl
    obtain rfl := hnil rfl
    have hE : ∀ W : World, Sem.run Tryd.prog (binOp .eql 33 (.slice none 0 0) (.slice none 0 0)) W = .ok (.bool true) W := fun W => by kernel_rfl
    go_enter Tryd.func35, Tryd.ntmps35
    go_wp2
    go_ret
    exact ⟨none, 0, rfl, World.ownsRow_nil _ _ _ _, Below.refl _ _⟩
  | some ad =>
    have HRW := Lib.hid (Reads.below h.1 (below_alloc' (Below.refl w.heap.size w) (.cells #[] 40)) (Nat.le_refl _))
    have HB2 := Lib.hid (below_alloc' (Below.refl w.heap.size w) (.cells #[] 40))
    have HLN := Lib.hid h.len
    clear h
    have hE : ∀ (W : World) (k : Nat), Sem.run Tryd.prog (binOp .eql 33 (.slice (some ad) k c) (.slice none 0 0)) W = .ok (.bool false) W := fun W k => by kernel_rfl
    go_enter Tryd.func35, Tryd.ntmps35
    go_wp2_with (at_builtin; (refine wpList_append_any _ rfl _ _ 33 rfl w.heap.size 40 i0 _ 3 48 Tryd.underlying33 HI.out.1 HI.out.2.1 HI.out.2.2.1 HI.out.2.2.2 rfl (by decide) _ 0 [] rfl HE.out (some ad) n c (flat fc ss) rfl HRW.out (fc_one ss) (by unfold maxLen; omega) (by omega) (by simp) ?_; intro v' w3 hown' hg3 _; rw [Nat.zero_add, List.nil_append] at hown'; obtain ⟨A', c', hv⟩ := own_slice hown'; subst hv; have HF := Lib.hid (And.intro hown' (HB2.out.trans (own_low HE.out hg3 (by rw [World.size_alloc]; omega)))); clear hown' hg3))
    go_ret
    exact ⟨A', c', rfl, own_base HF.out.1 (Nat.le_refl _), HF.out.2⟩
def nineS : FS := ⟨none, 0, 0, 9, ⟨#[]⟩, []⟩
theorem stp_nine (t : FT) : stp t nineS = t := by unfold stp nineS; simp
theorem end_nine (t : FT) (ss : List FS) : endT t (ss ++ [nineS]) = endT t ss := by unfold endT; rw [List.foldl_append]; exact stp_nine _
def EndPost (w : World) (n : Nat) (oc : List UInt8) (t : FT) (e : Ending) (w' : World) : Prop := ∃ r : FR, e = .returned (.agg (frc n r).toArray) ∧ r.t = t ∧ w'.ownsRow 0 9 1 (.slice r.NA t.names.length r.Nc) t.names.length ((srt t.names).map Value.string) ∧ Below w.heap.size w w'
set_option maxRecDepth 100000 in
set_option maxHeartbeats 4000000 in
theorem fieldEnd_calls (ad : Addr) (n c : Nat) (l : List UInt8) (hl : l.length = n) (hr : Reads w 1 (some ad) n (bys l)) (h0 : 0 < n) (hn : n ≤ 1000) (A : Option Addr) (sn sc : Nat) (ss : List FS) (h : FSL w A sn ss) (hnil : A = none → sc = 0) (hsn : sn ≤ 500) :
    Calls Tryd.prog 18 #[.slice (some ad) n c, .slice A sn sc] w (EndPost w n l (endT t0 ss)) := by
  obtain ⟨i0, hi, hz0, hz1, hz2⟩ := info_parts infoFS
  have HI := Lib.hid (And.intro hi (And.intro hz0 (And.intro hz1 hz2)))
  have HLN := Lib.hid h.len
  obtain ⟨w1, hw1⟩ : ∃ w1, w1 = w.alloc (.cells #[.bool false, .string ⟨#[]⟩, .string ⟨#[]⟩, .string ⟨#[]⟩, .slice none 0 0, .bool false, .bool false, .bool false, .bool false, .bool false, .bool false, .bool false, .bool false, .slice none 0 0, .slice none 0 0] 38) := ⟨_, rfl⟩
  have hb1 : Below w.heap.size w w1 := by rw [hw1]; exact below_alloc' (Below.refl _ _) _
  have HX := Lib.hid (show Blk w1 w.heap.size 38 #[.bool false, .string ⟨#[]⟩, .string ⟨#[]⟩, .string ⟨#[]⟩, .slice none 0 0, .bool false, .bool false, .bool false, .bool false, .bool false, .bool false, .bool false, .bool false, .slice none 0 0, .slice none 0 0] by rw [hw1]; exact Blk.new w _ _)
  have HS1 := Lib.hid (show w.heap.size < w1.heap.size by rw [hw1]; simp)
  have HB1 := Lib.hid hb1
  have HR := Lib.hid (hr.below hb1 (Nat.le_refl _))
  have HC1 := Lib.hid (bytesClone_calls (c := c) HR.out (by omega))
  have HF := Lib.hid h
  have HN := Lib.hid hnil
  have HLL := Lib.hid hl
  clear hi hz0 hz1 hz2 hr h hb1 hnil hl
  go_enter Tryd.func18, Tryd.ntmps18
  go_upto_region 1 with (fail)
  rw [← hw1]
  clear hw1
  go_upto_region 2 with (first
    | (go_at_call 12; ((with_reducible refine Calls.mono HC1.out ?_); rintro e w2 ⟨A2, c2, rfl, ho2, hb2⟩; have hH := HF.out.below (HB1.out.trans (hb2.mono HB1.out.size)) (Nat.le_refl _); have HC2 := Lib.hid (CloneS_calls A sn sc ss hH HN.out (by omega)); have H2 := Lib.hid (And.intro ho2 hb2); clear ho2 hb2 hH))
    | (go_at_call 35; ((with_reducible refine Calls.mono HC2.out ?_); rintro e w3 ⟨A3, c3, rfl, ho3, hb3⟩; have H3 := Lib.hid (And.intro ho3 hb3); clear ho3 hb3))
    | (at_builtin; (refine push_own H3.out.1 H3.out.2.size Tryd.underlying33 HI.out rfl (by decide) rfl (fs_cells _ _ _ _ _) (by omega) (by decide) rfl _ _ rfl rfl rfl rfl ?_; intro A4 c4 w4 ho4 hb4 hf4; have hb24 := H3.out.2.trans hb4; have hr4 := (Reads.of_own H2.out.1).below hb24 (Nat.le_refl _); have hall := (HB1.out.trans (H2.out.2.mono HB1.out.size)).trans (hb24.mono (Nat.le_trans HB1.out.size H2.out.2.size)); have hF4 : FSL w4 A4 (sn + 1) (ss ++ [nineS]) := ⟨(by rw [flat_app]; exact Reads.of_own ho4), fun s hs => (by rcases List.mem_append.1 hs with hs | hs; exact ⟨Reads.below (HF.out.2 s hs).1 hall (Nat.le_refl _), (HF.out.2 s hs).2⟩; rw [List.mem_singleton.1 hs]; exact ⟨Reads.none_, .inr (.inr (.inr (.inr (.inr rfl)))), Nat.zero_le _⟩)⟩; have hA2 := H2.out.1.form h0; obtain ⟨g2, cap2, hv2, _, _⟩ := hA2; injection hv2 with hv2 hv4 hv3; subst hv2; subst hv3; clear hv4; have HC4 := Lib.hid (FieldRun_calls (w := w4) ⟨g2, 0, none⟩ n c2 l HLL.out hr4 h0 hn A4 (sn + 1) c4 (ss ++ [nineS]) hF4 (by rw [List.length_append, ← HLN.out]; show sn + 1 ≤ 1000; omega)); have H4 := Lib.hid (And.intro hall (HX.out.below (H2.out.2.trans (hb24.mono H2.out.2.size)) HS1.out)); clear ho4 hb4 hf4 hb24 hr4 hall hF4))
    | (go_at_call 11; ((with_reducible refine Calls.mono HC4.out ?_); rintro e w5 ⟨v, rfl, hO, hB5⟩; obtain ⟨vA, vc, hv, hSN⟩ := hO.read; subst hv; have hlen : (runT t0 (ss ++ [nineS])).length = sn + 1 := (by rw [runT_len, List.length_append, ← HLN.out]; rfl); obtain ⟨vad, r, rfl, hrt, ⟨c0, cc⟩, _, hnm, _⟩ := hSN.at_ (j := sn) (by omega); have hre : r.t = endT t0 ss := (by rw [hrt]; have h1 := runT_at (t := t0) (ss := ss ++ [nineS]) (j := sn) (by rw [List.length_append, ← HLN.out]; show sn < sn + 1; omega); rw [List.getElem?_eq_getElem (by omega)] at h1; rw [Option.some.inj h1, List.take_of_length_le (by rw [List.length_append, ← HLN.out]; show sn + 1 ≤ sn + 1; omega), end_nine]); rw [hlen]; obtain ⟨rt, OA, Oc, NA, Nc, CA, Cc⟩ := r; have x0 : w5.cell? (vad.add (sn * 15)) = some (.bool true) := c0; have x1 : w5.cell? ⟨(vad.add (sn * 15)).block, (vad.add (sn * 15)).off + 1, none⟩ = some (.string (rt.kid.getD ⟨#[]⟩)) := cc 1 (by omega) (by omega); have x2 : w5.cell? ⟨(vad.add (sn * 15)).block, (vad.add (sn * 15)).off + 2, none⟩ = some (.string (rt.use.getD ⟨#[]⟩)) := cc 2 (by omega) (by omega); have x3 : w5.cell? ⟨(vad.add (sn * 15)).block, (vad.add (sn * 15)).off + 3, none⟩ = some (.string (rt.alg.getD ⟨#[]⟩)) := cc 3 (by omega) (by omega); have x4 : w5.cell? ⟨(vad.add (sn * 15)).block, (vad.add (sn * 15)).off + 4, none⟩ = some (.slice OA (rt.ops.getD []).length Oc) := cc 4 (by omega) (by omega); have x5 : w5.cell? ⟨(vad.add (sn * 15)).block, (vad.add (sn * 15)).off + 5, none⟩ = some (.bool rt.kid.isSome) := cc 5 (by omega) (by omega); have x6 : w5.cell? ⟨(vad.add (sn * 15)).block, (vad.add (sn * 15)).off + 6, none⟩ = some (.bool rt.use.isSome) := cc 6 (by omega) (by omega); have x7 : w5.cell? ⟨(vad.add (sn * 15)).block, (vad.add (sn * 15)).off + 7, none⟩ = some (.bool rt.ops.isSome) := cc 7 (by omega) (by omega); have x8 : w5.cell? ⟨(vad.add (sn * 15)).block, (vad.add (sn * 15)).off + 8, none⟩ = some (.bool rt.alg.isSome) := cc 8 (by omega) (by omega); have x9 : w5.cell? ⟨(vad.add (sn * 15)).block, (vad.add (sn * 15)).off + 9, none⟩ = some (.bool rt.kid.isSome) := cc 9 (by omega) (by omega); have x10 : w5.cell? ⟨(vad.add (sn * 15)).block, (vad.add (sn * 15)).off + 10, none⟩ = some (.bool rt.use.isSome) := cc 10 (by omega) (by omega); have x11 : w5.cell? ⟨(vad.add (sn * 15)).block, (vad.add (sn * 15)).off + 11, none⟩ = some (.bool rt.ops.isSome) := cc 11 (by omega) (by omega); have x12 : w5.cell? ⟨(vad.add (sn * 15)).block, (vad.add (sn * 15)).off + 12, none⟩ = some (.bool rt.alg.isSome) := cc 12 (by omega) (by omega); have x13 : w5.cell? ⟨(vad.add (sn * 15)).block, (vad.add (sn * 15)).off + 13, none⟩ = some (.slice NA rt.names.length Nc) := cc 13 (by omega) (by omega); have x14 : w5.cell? ⟨(vad.add (sn * 15)).block, (vad.add (sn * 15)).off + 14, none⟩ = some (.slice CA n Cc) := cc 14 (by omega) (by omega); have H5 := Lib.hid (And.intro hre (And.intro hnm (And.intro (H4.out.1.trans (hB5.mono H4.out.1.size)) (H4.out.2.below hB5 H4.out.2.lt)))); clear cc c0 hO hSN hB5 hrt hre hnm hlen)))
  have hk0 : (((sn + 1 : Nat) : Int) == 0) = false := by rw [beq_eq_false_iff_ne]; omega
  go_upto_region 4 with (fail)
  go_wp2_with ((with_reducible refine st_at (.tmp 4) ?_); (refine store_blk15 rfl _ _ _ rfl w.heap.size rfl #[.bool true, .string (rt.kid.getD ⟨#[]⟩), .string (rt.use.getD ⟨#[]⟩), .string (rt.alg.getD ⟨#[]⟩), .slice OA (rt.ops.getD []).length Oc, .bool rt.kid.isSome, .bool rt.use.isSome, .bool rt.ops.isSome, .bool rt.alg.isSome, .bool rt.kid.isSome, .bool rt.use.isSome, .bool rt.ops.isSome, .bool rt.alg.isSome, .slice NA rt.names.length Nc, .slice CA n Cc] _ rfl 38 H5.out.2.2.2 15 infoSz rfl rfl (seen_cells _ _ _ _ _ _ _ _ _ _ _ _ _ _ _ _ _ _ _ _ _) ?_; intro w7 hb7 hg7 hs7; have H7 := Lib.hid (And.intro hb7 hg7); clear hb7 hg7 hs7))
  refine bodyPost_ret (results_cell_row rfl _ _ w.heap.size 38 #[.bool true, .string (rt.kid.getD ⟨#[]⟩), .string (rt.use.getD ⟨#[]⟩), .string (rt.alg.getD ⟨#[]⟩), .slice OA (rt.ops.getD []).length Oc, .bool rt.kid.isSome, .bool rt.use.isSome, .bool rt.ops.isSome, .bool rt.alg.isSome, .bool rt.kid.isSome, .bool rt.use.isSome, .bool rt.ops.isSome, .bool rt.alg.isSome, .slice NA rt.names.length Nc, .slice CA n Cc] (0, 0) _ rfl H7.out.1 Tryd.underlying38 rfl (by kernel_rfl)) rfl ?_
  obtain ⟨e1, e2, e3, e4⟩ := H5.out
  obtain rfl : rt = endT t0 ss := e1
  refine ⟨⟨_, OA, Oc, NA, Nc, CA, Cc⟩, rfl, rfl, ?_, e3.trans (below_of_grown H7.out.2 (Nat.le_refl _) e3.size)⟩
  refine own_keep e2 (fun j cs hb => hb.grown H7.out.2 (fun e => ?_))
  injection e with e
  subst e
  exact absurd (blk_ty hb e4) (by decide)
end
end Go.Proofs.YtlbnemnadegapaaDoor.Kf
