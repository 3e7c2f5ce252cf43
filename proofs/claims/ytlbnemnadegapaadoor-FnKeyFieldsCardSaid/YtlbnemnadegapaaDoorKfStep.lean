/- A step of a symmetric key's fields; printed by gen_kfstep.py; the conditions are on what lies in memory. -/
import Derived.Test.YtlbnemnadegapaaDoorKfTxt
import Derived.Test.YtlbnemnadegapaaDoorKyTail2
set_option linter.unusedVariables false
set_option linter.unusedSimpArgs false
namespace Go.Proofs.YtlbnemnadegapaaDoor.Kf
open Go.RowKit Go.Proofs.YtlbnemnadegapaaDoor.K Go.Proofs.YtlbnemnadegapaaDoor.Nm Go.Proofs.YtlbnemnadegapaaDoor.Ky
section
variable {w w' : World} {x m o n : Nat} {t : FT} {oc : List UInt8}
theorem FKT.turn {f : FV} {t' : FT} (h : FKT w x m t o n oc) (hg : KS x w w') (hF : FKC w' x m f (.slice (some ⟨o, 0, none⟩) n n)) (hA : AlgO t'.alg f.alg) (hk : f.kid = t'.kid.map .string) (ho : OpsO w' t'.ops f.ops) (hu : f.use = t'.use.map .string) : FKT w' x m t' o n oc := by
  have h8 := h.oct hg
  obtain ⟨_, _, _, h3, _⟩ := h
  exact ⟨f, hF, h8, h3, hA, hk, ho, hu⟩
/-- What a step does: it turns the key's block alone. -/
def StPost (x m : Nat) (t' : FT) (o n : Nat) (oc : List UInt8) (w : World) (e : Ending) (w' : World) : Prop := e = .returned (.bool true) ∧ FKT w' x m t' o n oc ∧ KS x w w'
set_option maxRecDepth 100000 in
set_option maxHeartbeats 4000000 in
theorem step_kid (h : FKT w x m t o n oc) (s : FS) (hk : s.kind = 0) :
    Calls Tryd.prog 30 #[keyV x, fsV s] w (StPost x m { t with kid := some s.text } o n oc w) := by
  have hT := Lib.hid h
  obtain ⟨f, h1, h2, h3, h4, h5, h6, h7⟩ := h
  have hx := h1
  obtain ⟨pa, pk, po, pu, hx, _⟩ := hx
  obtain ⟨A, sn, c, kind, text, l⟩ := s
  simp only at hk
  subst hk
  have hb0 := below_alloc' (Below.refl w.heap.size w) (.cells #[.int .i64 (0 : Int), .string text, .slice A sn c] 40)
  have HS := Lib.hid (Set_kid (h1.below hb0) text)
  have hna : ∀ (W : World) (x : Nat), Sem.run Tryd.prog (nilAhead 319 107 (.pointer (some ⟨x, 0, none⟩)) "Set") W = .ok (some false) W := fun W x => by kernel_rfl
  have hms : ∀ (W : World) (x : Nat), (method 319 107 (.pointer (some ⟨x, 0, none⟩)) "Set").run Tryd.prog W = .ok (44, .pointer (some ⟨x, 0, none⟩)) W := fun W x => by kernel_rfl
  unfold keyV fsV
  have HX := Lib.hid (And.intro hx (And.intro h4 (And.intro h5 (And.intro h6 (And.intro h7 hb0)))))
  clear hx h1 h2 h3 h4 h5 h6 h7 hb0
  go_enter Tryd.func30, Tryd.ntmps30
  go_wp2_with (go_at_call 44; (with_reducible refine Calls.mono HS.out ?_); rintro e w' ⟨rfl, hF, hg⟩; have HF := Lib.hid (And.intro hF hg); clear hF hg)
  go_ret
  obtain ⟨hx, h4, h5, h6, h7, hb0⟩ := HX.out
  have hg := ((KS.refl x w).of_below hb0).trans HF.out.2
  exact ⟨rfl, hT.out.turn hg HF.out.1 h4 rfl (h6.keep hx hg) h7, hg⟩
set_option maxRecDepth 100000 in
set_option maxHeartbeats 4000000 in
theorem step_use (h : FKT w x m t o n oc) (s : FS) (hk : s.kind = 1) :
    Calls Tryd.prog 30 #[keyV x, fsV s] w (StPost x m { t with use := some s.text } o n oc w) := by
  have hT := Lib.hid h
  obtain ⟨f, h1, h2, h3, h4, h5, h6, h7⟩ := h
  have hx := h1
  obtain ⟨pa, pk, po, pu, hx, _⟩ := hx
  obtain ⟨A, sn, c, kind, text, l⟩ := s
  simp only at hk
  subst hk
  have hb0 := below_alloc' (Below.refl w.heap.size w) (.cells #[.int .i64 (1 : Int), .string text, .slice A sn c] 40)
  have HS := Lib.hid (Set_use (h1.below hb0) text)
  have hna : ∀ (W : World) (x : Nat), Sem.run Tryd.prog (nilAhead 319 107 (.pointer (some ⟨x, 0, none⟩)) "Set") W = .ok (some false) W := fun W x => by kernel_rfl
  have hms : ∀ (W : World) (x : Nat), (method 319 107 (.pointer (some ⟨x, 0, none⟩)) "Set").run Tryd.prog W = .ok (44, .pointer (some ⟨x, 0, none⟩)) W := fun W x => by kernel_rfl
  unfold keyV fsV
  have HX := Lib.hid (And.intro hx (And.intro h4 (And.intro h5 (And.intro h6 (And.intro h7 hb0)))))
  clear hx h1 h2 h3 h4 h5 h6 h7 hb0
  go_enter Tryd.func30, Tryd.ntmps30
  go_wp2_with (go_at_call 44; (with_reducible refine Calls.mono HS.out ?_); rintro e w' ⟨rfl, hF, hg⟩; have HF := Lib.hid (And.intro hF hg); clear hF hg)
  go_ret
  obtain ⟨hx, h4, h5, h6, h7, hb0⟩ := HX.out
  have hg := ((KS.refl x w).of_below hb0).trans HF.out.2
  exact ⟨rfl, hT.out.turn hg HF.out.1 h4 h5 (h6.keep hx hg) rfl, hg⟩
set_option maxRecDepth 100000 in
set_option maxHeartbeats 4000000 in
theorem step_alg (h : FKT w x m t o n oc) (s : FS) (hk : s.kind = 3) (hs : IsSig s.text) :
    Calls Tryd.prog 30 #[keyV x, fsV s] w (StPost x m { t with alg := some s.text } o n oc w) := by
  have hT := Lib.hid h
  obtain ⟨f, h1, h2, h3, h4, h5, h6, h7⟩ := h
  have hx := h1
  obtain ⟨pa, pk, po, pu, hx, _⟩ := hx
  obtain ⟨A, sn, c, kind, text, l⟩ := s
  simp only at hk
  subst hk
  have hb0 := below_alloc' (Below.refl w.heap.size w) (.cells #[.int .i64 (3 : Int), .string text, .slice A sn c] 40)
  have HS := Lib.hid (Set_alg (h1.below hb0) text hs)
  have hna : ∀ (W : World) (x : Nat), Sem.run Tryd.prog (nilAhead 319 107 (.pointer (some ⟨x, 0, none⟩)) "Set") W = .ok (some false) W := fun W x => by kernel_rfl
  have hms : ∀ (W : World) (x : Nat), (method 319 107 (.pointer (some ⟨x, 0, none⟩)) "Set").run Tryd.prog W = .ok (44, .pointer (some ⟨x, 0, none⟩)) W := fun W x => by kernel_rfl
  unfold keyV fsV
  have HX := Lib.hid (And.intro hx (And.intro h4 (And.intro h5 (And.intro h6 (And.intro h7 hb0)))))
  clear hx h1 h2 h3 h4 h5 h6 h7 hb0
  go_enter Tryd.func30, Tryd.ntmps30
  go_wp2_with (go_at_call 44; (with_reducible refine Calls.mono HS.out ?_); rintro e w' ⟨rfl, v, hv, hF, hg⟩; have HF := Lib.hid (And.intro hF hg); have HV := Lib.hid hv; clear hF hg hv)
  go_ret
  obtain ⟨hx, h4, h5, h6, h7, hb0⟩ := HX.out
  have hg := ((KS.refl x w).of_below hb0).trans HF.out.2
  exact ⟨rfl, hT.out.turn hg HF.out.1 HV.out h5 (h6.keep hx hg) h7, hg⟩
set_option maxRecDepth 100000 in
set_option maxHeartbeats 4000000 in
theorem step_nokid (h : FKT w x m t o n oc) (s : FS) (hk : s.kind = 4) (ht : s.text = nKid) :
    Calls Tryd.prog 30 #[keyV x, fsV s] w (StPost x m { t with kid := none } o n oc w) := by
  have hT := Lib.hid h
  obtain ⟨f, h1, h2, h3, h4, h5, h6, h7⟩ := h
  have hx := h1
  obtain ⟨pa, pk, po, pu, hx, _⟩ := hx
  obtain ⟨A, sn, c, kind, text, l⟩ := s
  simp only at hk
  simp only [nKid] at ht
  subst ht
  subst hk
  have hb0 := below_alloc' (Below.refl w.heap.size w) (.cells #[.int .i64 (4 : Int), .string ⟨#[107, 105, 100]⟩, .slice A sn c] 40)
  have HS := Lib.hid (Remove_kid (h1.below hb0))
  have hna : ∀ (W : World) (x : Nat), Sem.run Tryd.prog (nilAhead 319 107 (.pointer (some ⟨x, 0, none⟩)) "Remove") W = .ok (some false) W := fun W x => by kernel_rfl
  have hms : ∀ (W : World) (x : Nat), (method 319 107 (.pointer (some ⟨x, 0, none⟩)) "Remove").run Tryd.prog W = .ok (110, .pointer (some ⟨x, 0, none⟩)) W := fun W x => by kernel_rfl
  unfold keyV fsV
  have HX := Lib.hid (And.intro hx (And.intro h4 (And.intro h5 (And.intro h6 (And.intro h7 hb0)))))
  clear hx h1 h2 h3 h4 h5 h6 h7 hb0
  go_enter Tryd.func30, Tryd.ntmps30
  go_wp2_with (go_at_call 110; (with_reducible refine Calls.mono HS.out ?_); rintro e w' ⟨rfl, hF, hg⟩; have HF := Lib.hid (And.intro hF hg); clear hF hg)
  go_ret
  obtain ⟨hx, h4, h5, h6, h7, hb0⟩ := HX.out
  have hg := ((KS.refl x w).of_below hb0).trans HF.out.2
  exact ⟨rfl, hT.out.turn hg HF.out.1 h4 rfl (h6.keep hx hg) h7, hg⟩
set_option maxRecDepth 100000 in
set_option maxHeartbeats 4000000 in
theorem step_nouse (h : FKT w x m t o n oc) (s : FS) (hk : s.kind = 4) (ht : s.text = nUse) :
    Calls Tryd.prog 30 #[keyV x, fsV s] w (StPost x m { t with use := none } o n oc w) := by
  have hT := Lib.hid h
  obtain ⟨f, h1, h2, h3, h4, h5, h6, h7⟩ := h
  have hx := h1
  obtain ⟨pa, pk, po, pu, hx, _⟩ := hx
  obtain ⟨A, sn, c, kind, text, l⟩ := s
  simp only at hk
  simp only [nUse] at ht
  subst ht
  subst hk
  have hb0 := below_alloc' (Below.refl w.heap.size w) (.cells #[.int .i64 (4 : Int), .string ⟨#[117, 115, 101]⟩, .slice A sn c] 40)
  have HS := Lib.hid (Remove_use (h1.below hb0))
  have hna : ∀ (W : World) (x : Nat), Sem.run Tryd.prog (nilAhead 319 107 (.pointer (some ⟨x, 0, none⟩)) "Remove") W = .ok (some false) W := fun W x => by kernel_rfl
  have hms : ∀ (W : World) (x : Nat), (method 319 107 (.pointer (some ⟨x, 0, none⟩)) "Remove").run Tryd.prog W = .ok (110, .pointer (some ⟨x, 0, none⟩)) W := fun W x => by kernel_rfl
  unfold keyV fsV
  have HX := Lib.hid (And.intro hx (And.intro h4 (And.intro h5 (And.intro h6 (And.intro h7 hb0)))))
  clear hx h1 h2 h3 h4 h5 h6 h7 hb0
  go_enter Tryd.func30, Tryd.ntmps30
  go_wp2_with (go_at_call 110; (with_reducible refine Calls.mono HS.out ?_); rintro e w' ⟨rfl, hF, hg⟩; have HF := Lib.hid (And.intro hF hg); clear hF hg)
  go_ret
  obtain ⟨hx, h4, h5, h6, h7, hb0⟩ := HX.out
  have hg := ((KS.refl x w).of_below hb0).trans HF.out.2
  exact ⟨rfl, hT.out.turn hg HF.out.1 h4 h5 (h6.keep hx hg) rfl, hg⟩
set_option maxRecDepth 100000 in
set_option maxHeartbeats 4000000 in
theorem step_noops (h : FKT w x m t o n oc) (s : FS) (hk : s.kind = 4) (ht : s.text = nOps) :
    Calls Tryd.prog 30 #[keyV x, fsV s] w (StPost x m { t with ops := none } o n oc w) := by
  have hT := Lib.hid h
  obtain ⟨f, h1, h2, h3, h4, h5, h6, h7⟩ := h
  have hx := h1
  obtain ⟨pa, pk, po, pu, hx, _⟩ := hx
  obtain ⟨A, sn, c, kind, text, l⟩ := s
  simp only at hk
  simp only [nOps] at ht
  subst ht
  subst hk
  have hb0 := below_alloc' (Below.refl w.heap.size w) (.cells #[.int .i64 (4 : Int), .string ⟨#[107, 101, 121, 95, 111, 112, 115]⟩, .slice A sn c] 40)
  have HS := Lib.hid (Remove_ops (h1.below hb0))
  have hna : ∀ (W : World) (x : Nat), Sem.run Tryd.prog (nilAhead 319 107 (.pointer (some ⟨x, 0, none⟩)) "Remove") W = .ok (some false) W := fun W x => by kernel_rfl
  have hms : ∀ (W : World) (x : Nat), (method 319 107 (.pointer (some ⟨x, 0, none⟩)) "Remove").run Tryd.prog W = .ok (110, .pointer (some ⟨x, 0, none⟩)) W := fun W x => by kernel_rfl
  unfold keyV fsV
  have HX := Lib.hid (And.intro hx (And.intro h4 (And.intro h5 (And.intro h6 (And.intro h7 hb0)))))
  clear hx h1 h2 h3 h4 h5 h6 h7 hb0
  go_enter Tryd.func30, Tryd.ntmps30
  go_wp2_with (go_at_call 110; (with_reducible refine Calls.mono HS.out ?_); rintro e w' ⟨rfl, hF, hg⟩; have HF := Lib.hid (And.intro hF hg); clear hF hg)
  go_ret
  obtain ⟨hx, h4, h5, h6, h7, hb0⟩ := HX.out
  have hg := ((KS.refl x w).of_below hb0).trans HF.out.2
  exact ⟨rfl, hT.out.turn hg HF.out.1 h4 h5 trivial h7, hg⟩
set_option maxRecDepth 100000 in
set_option maxHeartbeats 4000000 in
theorem step_noalg (h : FKT w x m t o n oc) (s : FS) (hk : s.kind = 4) (ht : s.text = nAlg) :
    Calls Tryd.prog 30 #[keyV x, fsV s] w (StPost x m { t with alg := none } o n oc w) := by
  have hT := Lib.hid h
  obtain ⟨f, h1, h2, h3, h4, h5, h6, h7⟩ := h
  have hx := h1
  obtain ⟨pa, pk, po, pu, hx, _⟩ := hx
  obtain ⟨A, sn, c, kind, text, l⟩ := s
  simp only at hk
  simp only [nAlg] at ht
  subst ht
  subst hk
  have hb0 := below_alloc' (Below.refl w.heap.size w) (.cells #[.int .i64 (4 : Int), .string ⟨#[97, 108, 103]⟩, .slice A sn c] 40)
  have HS := Lib.hid (Remove_alg (h1.below hb0))
  have hna : ∀ (W : World) (x : Nat), Sem.run Tryd.prog (nilAhead 319 107 (.pointer (some ⟨x, 0, none⟩)) "Remove") W = .ok (some false) W := fun W x => by kernel_rfl
  have hms : ∀ (W : World) (x : Nat), (method 319 107 (.pointer (some ⟨x, 0, none⟩)) "Remove").run Tryd.prog W = .ok (110, .pointer (some ⟨x, 0, none⟩)) W := fun W x => by kernel_rfl
  unfold keyV fsV
  have HX := Lib.hid (And.intro hx (And.intro h4 (And.intro h5 (And.intro h6 (And.intro h7 hb0)))))
  clear hx h1 h2 h3 h4 h5 h6 h7 hb0
  go_enter Tryd.func30, Tryd.ntmps30
  go_wp2_with (go_at_call 110; (with_reducible refine Calls.mono HS.out ?_); rintro e w' ⟨rfl, hF, hg⟩; have HF := Lib.hid (And.intro hF hg); clear hF hg)
  go_ret
  obtain ⟨hx, h4, h5, h6, h7, hb0⟩ := HX.out
  have hg := ((KS.refl x w).of_below hb0).trans HF.out.2
  exact ⟨rfl, hT.out.turn hg HF.out.1 trivial h5 (h6.keep hx hg) h7, hg⟩
set_option maxRecDepth 100000 in
set_option maxHeartbeats 4000000 in
theorem step_ops (h : FKT w x m t o n oc) (s : FS) (hk : s.kind = 2) (hl : ∀ x ∈ s.l, x ∈ ops8) (hn : s.n ≤ 1000) (hm : SLt w s.A s.n s.l) :
    Calls Tryd.prog 30 #[keyV x, fsV s] w (StPost x m { t with ops := some s.l } o n oc w) := by
  have hT := Lib.hid h
  obtain ⟨f, h1, h2, h3, h4, h5, h6, h7⟩ := h
  have hx := h1
  obtain ⟨pa, pk, po, pu, hx, _⟩ := hx
  obtain ⟨A, sn, c, kind, text, l⟩ := s
  simp only at hk
  simp only at hl hn hm
  subst hk
  obtain ⟨i0, hi, hz0, hz1, hz2⟩ := info_parts infoStr
  obtain ⟨w1, hw1⟩ : ∃ w1, w1 = w.alloc (.cells #[.int .i64 (2 : Int), .string text, .slice A sn c] 40) := ⟨_, rfl⟩
  have hb0 : Below w.heap.size w w1 := by rw [hw1]; exact below_alloc' (Below.refl w.heap.size w) _
  have hbx : Blk w1 w.heap.size 40 #[.int .i64 (2 : Int), .string text, .slice A sn c] := by rw [hw1]; exact Blk.new w _ _
  have hm1 := hm.below hb0
  obtain ⟨v', w2, hrun, ho2, hg2, _⟩ := run_append_any (P := Tryd.prog) (w1.alloc (.cells #[] 9)).drew w1.heap.size 35 35 9 i0 (.string ByteArray.empty) 1 16 Tryd.underlying35 hi hz0 hz1 hz2 rfl (by decide) _ 0 [] (show (w1.alloc (.cells #[] 9)).drew.ownsRow w1.heap.size 9 1 (.slice (some ⟨w1.heap.size, 0, none⟩) 0 0) 0 [] from Ky.own_empty w1 9) A sn c (l.map Value.string) (hm1.below (below_alloc' (Below.refl w1.heap.size w1) _).drew) (by intro u hu; obtain ⟨b, _, rfl⟩ := List.mem_map.1 hu; rfl) (by unfold maxLen; omega) (by omega) (by simp)
  obtain ⟨vA, vc, hv2⟩ := own_slice ho2
  subst hv2
  rw [List.nil_append, Nat.zero_add] at ho2
  rw [Nat.zero_add] at hrun
  have hb2 : Below w.heap.size w w2 := hb0.trans (((below_alloc' (Below.refl w1.heap.size w1) _).drew.trans (own_low (show (w1.alloc (.cells #[] 9)).drew.ownsRow w1.heap.size 9 1 (.slice (some ⟨w1.heap.size, 0, none⟩) 0 0) 0 [] from Ky.own_empty w1 9) hg2 (by simp))).mono hb0.size)
  have HS := Lib.hid (Set_ops (c := vc) (h1.below hb2) (Reads.of_own ho2) hl hn)
  have hna : ∀ (W : World) (x : Nat), Sem.run Tryd.prog (nilAhead 319 107 (.pointer (some ⟨x, 0, none⟩)) "Set") W = .ok (some false) W := fun W x => by kernel_rfl
  have hms : ∀ (W : World) (x : Nat), (method 319 107 (.pointer (some ⟨x, 0, none⟩)) "Set").run Tryd.prog W = .ok (44, .pointer (some ⟨x, 0, none⟩)) W := fun W x => by kernel_rfl
  have HX := Lib.hid (And.intro hx (And.intro h4 (And.intro h5 (And.intro h6 (And.intro h7 (And.intro hb2 hm.len))))))
  have HR := Lib.hid hrun
  have e1 : w1.drew.cell? ⟨w.heap.size, 2, none⟩ = some (.slice A sn c) := by
    have : w1.drew.cell? ⟨w.heap.size, 2, none⟩ = _ := hbx.cell 2
    rw [this]; rfl
  have e2 : (w1.alloc (.cells #[] 9)).drew.cell? ⟨w.heap.size, 2, none⟩ = some (.slice A sn c) := by
    have : (w1.alloc (.cells #[] 9)).drew.cell? ⟨w.heap.size, 2, none⟩ = _ := (hbx.alloc (.cells #[] 9)).cell 2
    rw [this]; rfl
  have HB := Lib.hid hbx
  clear hx h1 h2 h3 h4 h5 h6 h7 hb0 hm hm1 hrun ho2 hg2 hb2 hbx hi hz0 hz1 hz2
  unfold keyV fsV
  go_enter Tryd.func30, Tryd.ntmps30
  go_wp2_with fail
  rw [← hw1]
  clear hw1
  refine wp_only ?_
  go_region_law (first
    | (refine step_append_run rfl _ _ 35 rfl _ _ (by simp [Act.eval, Act.put]) (by simp [Act.eval, Act.put]) HR.out ?_)
    | (rw [if_pos (by rfl)]; go_simp; go_at_call 44; (with_reducible refine Calls.mono HS.out ?_); rintro e w' ⟨rfl, g, hF0, hF, hg⟩; have HF := Lib.hid (And.intro hF (And.intro hg hF0)); clear hF hg hF0))
  all_goals
    refine only_n ?_
    go_wp2_with fail
    go_ret
    obtain ⟨hx, h4, h5, h6, h7, hb2, hln⟩ := HX.out
    have hg := ((KS.refl x w).of_below hb2).trans HF.out.2.1
    obtain ⟨cs, hcs, hfil⟩ := HF.out.2.2
    exact ⟨rfl, hT.out.turn hg HF.out.1 h4 h5 (by subst hln; exact ⟨g, cs, rfl, hcs, hfil⟩) h7, hg⟩
set_option maxRecDepth 100000 in
set_option maxHeartbeats 4000000 in
theorem step_nil (h : FKT w x m t o n oc) (s : FS) (hk : s.kind = 9) :
    Calls Tryd.prog 30 #[keyV x, fsV s] w (StPost x m t o n oc w) := by
  have hT := Lib.hid h
  obtain ⟨f, h1, h2, h3, h4, h5, h6, h7⟩ := h
  have hx := h1
  obtain ⟨pa, pk, po, pu, hx, _⟩ := hx
  obtain ⟨A, sn, c, kind, text, l⟩ := s
  simp only at hk
  subst hk
  have hb0 := below_alloc' (Below.refl w.heap.size w) (.cells #[.int .i64 (9 : Int), .string text, .slice A sn c] 40)
  have HX := Lib.hid hb0
  clear hx h1 h2 h3 h4 h5 h6 h7 hb0
  unfold keyV fsV
  go_enter Tryd.func30, Tryd.ntmps30
  go_wp2_with fail
  go_ret
  exact ⟨rfl, hT.out.below HX.out, (KS.refl x w).of_below HX.out⟩
/-- A step of a key's fields. -/
theorem fieldStep_calls (h : FKT w x m t o n oc) (s : FS) (hs : SOk s) (hm : SLt w s.A s.n s.l) : Calls Tryd.prog 30 #[keyV x, fsV s] w (StPost x m (stp t s) o n oc w) := by
  have hd : nUse ≠ nKid ∧ nOps ≠ nKid ∧ nOps ≠ nUse ∧ nAlg ≠ nKid ∧ nAlg ≠ nUse ∧ nAlg ≠ nOps := by decide
  rcases hs with hk | hk | ⟨hk, hl, hn⟩ | ⟨hk, hi⟩ | ⟨hk, ht | ht | ht | ht⟩ | hk
  · have := step_kid h s hk
    rwa [show { t with kid := some s.text } = stp t s from by unfold stp; rw [if_pos hk]] at this
  · have := step_use h s hk
    rwa [show { t with use := some s.text } = stp t s from by unfold stp; rw [hk]; rfl] at this
  · have := step_ops h s hk hl hn hm
    rwa [show { t with ops := some s.l } = stp t s from by unfold stp; rw [hk]; rfl] at this
  · have := step_alg h s hk hi
    rwa [show { t with alg := some s.text } = stp t s from by unfold stp; rw [hk]; rfl] at this
  · have := step_nokid h s hk ht
    rwa [show { t with kid := none } = stp t s from by unfold stp; rw [hk, ht]; simp] at this
  · have := step_nouse h s hk ht
    rwa [show { t with use := none } = stp t s from by unfold stp; rw [hk, ht]; simp [hd.1]] at this
  · have := step_noops h s hk ht
    rwa [show { t with ops := none } = stp t s from by unfold stp; rw [hk, ht]; simp [hd.2.1, hd.2.2.1]] at this
  · have := step_noalg h s hk ht
    rwa [show { t with alg := none } = stp t s from by unfold stp; rw [hk, ht]; simp [hd.2.2.2.1, hd.2.2.2.2.1, hd.2.2.2.2.2]] at this
  · have := step_nil h s hk
    rwa [show t = stp t s from by unfold stp; rw [hk]; simp] at this
end
end Go.Proofs.YtlbnemnadegapaaDoor.Kf
