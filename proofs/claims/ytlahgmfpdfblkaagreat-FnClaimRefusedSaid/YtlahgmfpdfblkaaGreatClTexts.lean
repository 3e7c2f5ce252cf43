/- Walks of Issuer, Subject, JwtID and impl.Texts; the conditions are on sizes alone. -/
import Derived.Test.YtlahgmfpdfblkaaGreatClFill2
set_option linter.unusedVariables false
set_option linter.unusedSimpArgs false
namespace Go.Proofs.YtlahgmfpdfblkaaGreat.Cl
open Go.RowKit Go.Proofs.YtlahgmfpdfblkaaGreat.K
def gD (o : Option ByteArray) : ByteArray := o.getD ⟨#[]⟩
set_option maxRecDepth 100000 in
theorem Issuer_calls (w0 w : World) (g : Nat) (st : St) (ht : TokS w0 w g st) :
    Calls Tryz.prog 139 #[.pointer (some ⟨g, 0, none⟩)] w fun e w' => e = .returned (.tuple #[.string (gD st.iss), .bool st.iss.isSome]) ∧ w = w' := by
  obtain ⟨A, n, c, pi, pj, ps, m, hb, hi, hj, hs, hm, hm0⟩ := ht
  rcases hi with ⟨ho, hp⟩ | ⟨x, bb, ho, hp, hx, hne⟩
  · subst hp
    rw [ho]
    have hc : w.cell? ⟨g, 2, none⟩ = some (.pointer none) := by rw [hb.cell]; rfl
    clear hb hm
    go_enter Tryz.func139, Tryz.ntmps139
    go_wp2
    exact bodyPost_ret (v := .tuple #[.string ⟨#[]⟩, .bool false]) (by kernel_rfl) rfl ⟨rfl, rfl⟩
  · subst hp
    rw [ho]
    have hc : w.cell? ⟨g, 2, none⟩ = some (.pointer (some ⟨bb, 0, none⟩)) := by rw [hb.cell]; rfl
    have hcx : w.cell? ⟨bb, 0, none⟩ = some (.string x) := by rw [hx.cell]; rfl
    clear hb hm hx
    go_enter Tryz.func139, Tryz.ntmps139
    go_wp2
    exact bodyPost_ret (v := .tuple #[.string x, .bool true]) (by kernel_rfl) rfl ⟨rfl, rfl⟩
set_option maxRecDepth 100000 in
theorem JwtID_calls (w0 w : World) (g : Nat) (st : St) (ht : TokS w0 w g st) :
    Calls Tryz.prog 140 #[.pointer (some ⟨g, 0, none⟩)] w fun e w' => e = .returned (.tuple #[.string (gD st.jti), .bool st.jti.isSome]) ∧ w = w' := by
  obtain ⟨A, n, c, pi, pj, ps, m, hb, hi, hj, hs, hm, hm0⟩ := ht
  rcases hj with ⟨ho, hp⟩ | ⟨x, bb, ho, hp, hx, hne⟩
  · subst hp
    rw [ho]
    have hc : w.cell? ⟨g, 3, none⟩ = some (.pointer none) := by rw [hb.cell]; rfl
    clear hb hm
    go_enter Tryz.func140, Tryz.ntmps140
    go_wp2
    exact bodyPost_ret (v := .tuple #[.string ⟨#[]⟩, .bool false]) (by kernel_rfl) rfl ⟨rfl, rfl⟩
  · subst hp
    rw [ho]
    have hc : w.cell? ⟨g, 3, none⟩ = some (.pointer (some ⟨bb, 0, none⟩)) := by rw [hb.cell]; rfl
    have hcx : w.cell? ⟨bb, 0, none⟩ = some (.string x) := by rw [hx.cell]; rfl
    clear hb hm hx
    go_enter Tryz.func140, Tryz.ntmps140
    go_wp2
    exact bodyPost_ret (v := .tuple #[.string x, .bool true]) (by kernel_rfl) rfl ⟨rfl, rfl⟩
set_option maxRecDepth 100000 in
theorem Subject_calls (w0 w : World) (g : Nat) (st : St) (ht : TokS w0 w g st) :
    Calls Tryz.prog 145 #[.pointer (some ⟨g, 0, none⟩)] w fun e w' => e = .returned (.tuple #[.string (gD st.sub), .bool st.sub.isSome]) ∧ w = w' := by
  obtain ⟨A, n, c, pi, pj, ps, m, hb, hi, hj, hs, hm, hm0⟩ := ht
  rcases hs with ⟨ho, hp⟩ | ⟨x, bb, ho, hp, hx, hne⟩
  · subst hp
    rw [ho]
    have hc : w.cell? ⟨g, 4, none⟩ = some (.pointer none) := by rw [hb.cell]; rfl
    clear hb hm
    go_enter Tryz.func145, Tryz.ntmps145
    go_wp2
    exact bodyPost_ret (v := .tuple #[.string ⟨#[]⟩, .bool false]) (by kernel_rfl) rfl ⟨rfl, rfl⟩
  · subst hp
    rw [ho]
    have hc : w.cell? ⟨g, 4, none⟩ = some (.pointer (some ⟨bb, 0, none⟩)) := by rw [hb.cell]; rfl
    have hcx : w.cell? ⟨bb, 0, none⟩ = some (.string x) := by rw [hx.cell]; rfl
    clear hb hm hx
    go_enter Tryz.func145, Tryz.ntmps145
    go_wp2
    exact bodyPost_ret (v := .tuple #[.string x, .bool true]) (by kernel_rfl) rfl ⟨rfl, rfl⟩
theorem ta_tok (g : Nat) (W : World) : Sem.run Tryz.prog (Instr.typeAssert (.iface 99 (.pointer (some ⟨g, 0, none⟩))) 47 45 false) W = .ok (.iface 99 (.pointer (some ⟨g, 0, none⟩))) W := by kernel_rfl
theorem TokS.store {w0 w : World} {g r : Nat} {st : St} {T : TypeId} {cs : Array Value} (h : TokS w0 w g st) (hr : Blk w r T cs) (h1 : T ≠ 9) (h2 : T ≠ 101) (i : Nat) (u : Value) : TokS w0 (w.setCell ⟨r, i, none⟩ u) g st := by
  obtain ⟨A, n, c, pi, pj, ps, m, hb, hi, hj, hs, hm, hm0⟩ := h
  have hst := setCell_grown w ⟨r, i, none⟩ u
  have ne : ∀ b T' cs', Blk w b T' cs' → T' ≠ T → b ≠ r := by
    rintro b T' cs' hb hT rfl
    unfold Blk at hb hr
    rw [hb] at hr
    injection hr with hr
    injection hr with _ hr
    exact hT hr
  have hne : ∀ b x, Blk w b 9 #[.string x] → b ≠ g → some b ≠ some r := fun b x hx _ e => ne b _ _ hx (Ne.symm h1) (Option.some.inj e)
  exact ⟨A, n, c, pi, pj, ps, m, hb.far (ne g _ _ hb (Ne.symm h2)) _, hi.grown hst hne, hj.grown hst hne, hs.grown hst hne, hm.grown hst (fun e => (hm.ne hr) (Option.some.inj e).symm), hm0⟩
/-- Behind two stores into the results. -/
theorem T_step {w w0 w1 Y : World} {g r1 r2 i : Nat} {st : St} {c1 c2 : Array Value} {u v : Value} (hK1 : Blk w1 r1 30 c1) (hK2 : Blk w1 r2 31 c2) (hne : r1 ≠ r2) (ht : TokS w0 w1 g st) (hB : Below w.heap.size w w1) (h1 : w.heap.size ≤ r1) (h2 : w.heap.size ≤ r2)
    (hY : Y = (w1.setCell ⟨r1, i, none⟩ u).setCell ⟨r2, i, none⟩ v) : Blk Y r1 30 (c1.setIfInBounds i u) ∧ Blk Y r2 31 (c2.setIfInBounds i v) ∧ TokS w0 Y g st ∧ Below w.heap.size w Y := by
  subst hY
  have a1 := hK1.set_ i u
  have a2 : Blk (w1.setCell ⟨r1, i, none⟩ u) r2 31 c2 := hK2.far (Ne.symm hne) _
  have t1 := ht.store hK1 (by decide) (by decide) i u
  have b1 : Below w.heap.size w (w1.setCell ⟨r1, i, none⟩ u) := hB.grown (setCell_grown w1 ⟨r1, i, none⟩ u) hB.size (by intro j hj; cases hj; exact h1)
  exact ⟨a1.far hne _, a2.set_ i v, t1.store a2 (by decide) (by decide) i v, b1.grown (setCell_grown _ ⟨r2, i, none⟩ v) b1.size (by intro j hj; cases hj; exact h2)⟩
theorem T_cell {w1 : World} {r1 r2 i : Nat} {T1 T2 : TypeId} {c1 c2 : Array Value} {u x y : Value} (hK1 : Blk w1 r1 T1 c1) (hK2 : Blk w1 r2 T2 c2) (hne : r1 ≠ r2) (h1 : c1[i]? = some x) (h2 : c2[i]? = some y) :
    w1.cell? ⟨r1, i, none⟩ = some x ∧ w1.frozen? ⟨r1, i, none⟩ = false ∧ (w1.setCell ⟨r1, i, none⟩ u).cell? ⟨r2, i, none⟩ = some y ∧ (w1.setCell ⟨r1, i, none⟩ u).frozen? ⟨r2, i, none⟩ = false := by
  have a2 : Blk (w1.setCell ⟨r1, i, none⟩ u) r2 T2 c2 := hK2.far (Ne.symm hne) _
  exact ⟨by rw [hK1.cell, h1], hK1.frozen i, by rw [a2.cell, h2], a2.frozen i⟩
theorem three_cells {w : World} {g : Nat} {T : TypeId} {x y z : Value} (h : Blk w g T #[x, y, z]) : w.cell? ⟨g, 0, none⟩ = some x ∧ w.cell? ⟨g, 1, none⟩ = some y ∧ w.cell? ⟨g, 2, none⟩ = some z :=
  ⟨by rw [h.cell]; rfl, by rw [h.cell]; rfl, by rw [h.cell]; rfl⟩
theorem results_two (tmps : Array Value) (w : World) (g1 g2 : Nat) (c1 c2 : Array Value) (hp : tmps.getD 2 undef = .pointer (some ⟨g1, 0, none⟩)) (hq : tmps.getD 3 undef = .pointer (some ⟨g2, 0, none⟩)) (h1 : Blk w g1 30 c1) (h2 : Blk w g2 31 c2) (s1 : c1.size = 3) (s2 : c2.size = 3) :
    (results Tryz.f9 tmps).run Tryz.prog w = .ok (.tuple #[.agg c1, .agg c2]) w := by
  have hp' : tmps[2]?.getD undef = .pointer (some ⟨g1, 0, none⟩) := by simpa using hp
  have hq' : tmps[3]?.getD undef = .pointer (some ⟨g2, 0, none⟩) := by simpa using hq
  have i1 : (Tryz.prog.info? 30).map (·.size) = some c1.size := by rw [s1]; kernel_rfl
  have i2 : (Tryz.prog.info? 31).map (·.size) = some c2.size := by rw [s2]; kernel_rfl
  simp [results, Tryz.results9, hp', hq', asAddr, run_loadVar_row w g1 _ _ c1 (0, 0) _ h1 Tryz.underlying30 rfl i1, run_loadVar_row w g2 _ _ c2 (0, 0) _ h2 Tryz.underlying31 rfl i2, Result.andThen]
def TPost (w : World) (st : St) (e : Ending) (w' : World) : Prop :=
  e = .returned (.tuple #[.agg #[.string (gD st.iss), .string (gD st.sub), .string (gD st.jti)], .agg #[.bool st.iss.isSome, .bool st.sub.isSome, .bool st.jti.isSome]]) ∧ Below w.heap.size w w'
set_option maxRecDepth 100000 in
set_option maxHeartbeats 4000000 in
theorem Texts_calls (w : World) (A : Option Addr) (n c : Nat) (fs : List Fd) (h : FL w A n fs) (hn : ∀ f ∈ fs, f.n ≤ 100000) (hn0 : n ≤ 100000) :
    Calls Tryz.prog 9 #[.slice A n c] w (TPost w (stF fs st0)) := by
  obtain ⟨st, hst⟩ : ∃ st, st = stF fs st0 := ⟨_, rfl⟩
  rw [← hst]
  have hmi : ∀ (W : World) (g : Nat), (method 270 99 (.pointer (some ⟨g, 0, none⟩)) "Issuer").run Tryz.prog W = .ok (139, .pointer (some ⟨g, 0, none⟩)) W := fun W g => by kernel_rfl
  have hms : ∀ (W : World) (g : Nat), (method 270 99 (.pointer (some ⟨g, 0, none⟩)) "Subject").run Tryz.prog W = .ok (145, .pointer (some ⟨g, 0, none⟩)) W := fun W g => by kernel_rfl
  have hmj : ∀ (W : World) (g : Nat), (method 270 99 (.pointer (some ⟨g, 0, none⟩)) "JwtID").run Tryz.prog W = .ok (140, .pointer (some ⟨g, 0, none⟩)) W := fun W g => by kernel_rfl
  have hta := fun W g => ta_tok g W
  obtain ⟨wA, hwA⟩ : ∃ wA, wA = (w.alloc (.cells #[.string ⟨#[]⟩, .string ⟨#[]⟩, .string ⟨#[]⟩] 30)).alloc (.cells #[.bool false, .bool false, .bool false] 31) := ⟨_, rfl⟩
  have hBA : Below w.heap.size w wA := by rw [hwA]; exact below_alloc' (below_alloc' (Below.refl w.heap.size w) _) _
  have hF := filled_calls wA A n c fs (h.below hBA (Nat.le_refl _)) hn hn0
  rw [show FilPost wA fs = fun e w' => ∃ g, e = .returned (.iface 99 (.pointer (some ⟨g, 0, none⟩))) ∧ TokS wA w' g st ∧ wA.heap.size ≤ g ∧ Below wA.heap.size wA w' by rw [hst]; rfl] at hF
  have HF := Lib.hid hF
  have HBA := Lib.hid hBA
  have hK1 : Blk wA w.heap.size 30 #[.string ⟨#[]⟩, .string ⟨#[]⟩, .string ⟨#[]⟩] := by rw [hwA]; exact (Blk.new w _ _).alloc _
  have hK2 : Blk wA (w.heap.size + 1) 31 #[.bool false, .bool false, .bool false] := by
    rw [hwA]
    have := Blk.new (w.alloc (.cells #[.string ⟨#[]⟩, .string ⟨#[]⟩, .string ⟨#[]⟩] 30)) 31 #[.bool false, .bool false, .bool false]
    rwa [show (w.alloc (.cells #[.string ⟨#[]⟩, .string ⟨#[]⟩, .string ⟨#[]⟩] 30)).heap.size = w.heap.size + 1 from by simp] at this
  have HK1 := Lib.hid hK1
  have HK2 := Lib.hid hK2
  clear hF hBA hK1 hK2 h hn hst
  go_enter Tryz.func9, Tryz.ntmps9
  go_wp2_with fail
  rw [← hwA]
  clear hwA
  refine HF.out.mono ?_
  rintro e w1 ⟨g, rfl, ht, hg, hB1⟩
  have HTa := Lib.hid ht
  have HBa := Lib.hid (below_then HBA.out hB1)
  have HI := Lib.hid (Issuer_calls wA w1 g st ht)
  have HX1a := Lib.hid (HK1.out.below hB1 HK1.out.lt)
  have HX2a := Lib.hid (HK2.out.below hB1 HK2.out.lt)
  have HG := Lib.hid hg
  clear ht hB1 HF HK1 HK2 hg
  go_wp2_with fail
  refine HI.out.mono ?_
  rintro e w2 ⟨rfl, rfl⟩
  obtain ⟨q1, q2, q3, q4⟩ := T_cell (u := .string (gD st.iss)) (i := 0) HX1a.out HX2a.out (by omega) rfl rfl
  obtain ⟨y1, hy1⟩ : ∃ Y, Y = (w1.setCell ⟨w.heap.size, 0, none⟩ (.string (gD st.iss))).setCell ⟨w.heap.size + 1, 0, none⟩ (.bool st.iss.isSome) := ⟨_, rfl⟩
  obtain ⟨hx1, hx2, hxt, hxb⟩ := T_step HX1a.out HX2a.out (by omega) HTa.out HBa.out (Nat.le_refl _) (by omega) hy1
  have HX1b := Lib.hid hx1
  have HX2b := Lib.hid hx2
  have HTb := Lib.hid hxt
  have HBb := Lib.hid hxb
  have HS := Lib.hid (Subject_calls wA y1 g st hxt)
  clear hx1 hx2 hxt hxb HX1a HX2a HTa HBa HI
  go_wp2_with fail
  rw [← hy1]
  clear q1 q2 q3 q4 hy1
  refine HS.out.mono ?_
  rintro e w2 ⟨rfl, rfl⟩
  obtain ⟨q1, q2, q3, q4⟩ := T_cell (u := .string (gD st.sub)) (i := 1) HX1b.out HX2b.out (by omega) rfl rfl
  obtain ⟨y2, hy2⟩ : ∃ Y, Y = (y1.setCell ⟨w.heap.size, 1, none⟩ (.string (gD st.sub))).setCell ⟨w.heap.size + 1, 1, none⟩ (.bool st.sub.isSome) := ⟨_, rfl⟩
  obtain ⟨hx1, hx2, hxt, hxb⟩ := T_step HX1b.out HX2b.out (by omega) HTb.out HBb.out (Nat.le_refl _) (by omega) hy2
  have HX1c := Lib.hid hx1
  have HX2c := Lib.hid hx2
  have HTc := Lib.hid hxt
  have HBc := Lib.hid hxb
  have HJ := Lib.hid (JwtID_calls wA y2 g st hxt)
  clear hx1 hx2 hxt hxb HX1b HX2b HTb HBb HS
  go_wp2_with fail
  rw [← hy2]
  clear q1 q2 q3 q4 hy2
  refine HJ.out.mono ?_
  rintro e w3 ⟨rfl, rfl⟩
  obtain ⟨q1, q2, q3, q4⟩ := T_cell (u := .string (gD st.jti)) (i := 2) HX1c.out HX2c.out (by omega) rfl rfl
  obtain ⟨y3, hy3⟩ : ∃ Y, Y = (y2.setCell ⟨w.heap.size, 2, none⟩ (.string (gD st.jti))).setCell ⟨w.heap.size + 1, 2, none⟩ (.bool st.jti.isSome) := ⟨_, rfl⟩
  obtain ⟨hx1, hx2, hxt, hxb⟩ := T_step HX1c.out HX2c.out (by omega) HTc.out HBc.out (Nat.le_refl _) (by omega) hy3
  have HX1d := Lib.hid hx1
  have HX2d := Lib.hid hx2
  have HBd := Lib.hid hxb
  clear hx1 hx2 hxt hxb HX1c HX2c HTc HBc HJ
  go_upto_region 5 with (fail)
  rw [← hy3]
  clear q1 q2 q3 q4 hy3
  obtain ⟨a0, a1, a2⟩ := three_cells HX1d.out
  obtain ⟨b0, b1, b2⟩ := three_cells HX2d.out
  have f0 := HX1d.out.frozen 0
  have f1 := HX1d.out.frozen 1
  have f2 := HX1d.out.frozen 2
  have e0 := HX2d.out.frozen 0
  have e1 := HX2d.out.frozen 1
  have e2 := HX2d.out.frozen 2
  go_region
  all_goals
    go_wp2
    have hne : (w.heap.size + 1 : Nat) ≠ w.heap.size := by omega
    have k1 := (((((HX1d.out.set_ 0 (.string (gD st.iss))).set_ 1 (.string (gD st.sub))).set_ 2 (.string (gD st.jti))).far (p := ⟨w.heap.size + 1, 0, none⟩) (Ne.symm hne) (.bool st.iss.isSome)).far (p := ⟨w.heap.size + 1, 1, none⟩) (Ne.symm hne) (.bool st.sub.isSome)).far (p := ⟨w.heap.size + 1, 2, none⟩) (Ne.symm hne) (.bool st.jti.isSome)
    have k2 := (((((HX2d.out.far (p := ⟨w.heap.size, 0, none⟩) hne (.string (gD st.iss))).far (p := ⟨w.heap.size, 1, none⟩) hne (.string (gD st.sub))).far (p := ⟨w.heap.size, 2, none⟩) hne (.string (gD st.jti))).set_ 0 (.bool st.iss.isSome)).set_ 1 (.bool st.sub.isSome)).set_ 2 (.bool st.jti.isSome)
    have hB1 := fun (W : World) (hB : Below w.heap.size w W) (r i : Nat) (u : Value) (hr : w.heap.size ≤ r) => hB.grown (setCell_grown W ⟨r, i, none⟩ u) hB.size (by intro j hj; cases hj; exact hr)
    have hBB := hB1 _ (hB1 _ (hB1 _ (hB1 _ (hB1 _ (hB1 _ HBd.out w.heap.size 0 (.string (gD st.iss)) (Nat.le_refl _)) w.heap.size 1 (.string (gD st.sub)) (Nat.le_refl _)) w.heap.size 2 (.string (gD st.jti)) (Nat.le_refl _)) (w.heap.size + 1) 0 (.bool st.iss.isSome) (by omega)) (w.heap.size + 1) 1 (.bool st.sub.isSome) (by omega)) (w.heap.size + 1) 2 (.bool st.jti.isSome) (by omega)
    obtain ⟨X, hX⟩ : ∃ X, X = (((((y3.setCell ⟨w.heap.size, 0, none⟩ (.string (gD st.iss))).setCell ⟨w.heap.size, 1, none⟩ (.string (gD st.sub))).setCell ⟨w.heap.size, 2, none⟩ (.string (gD st.jti))).setCell ⟨w.heap.size + 1, 0, none⟩ (.bool st.iss.isSome)).setCell ⟨w.heap.size + 1, 1, none⟩ (.bool st.sub.isSome)).setCell ⟨w.heap.size + 1, 2, none⟩ (.bool st.jti.isSome) := ⟨_, rfl⟩
    rw [← hX] at k1 k2 hBB ⊢
    clear hX hB1
    have k1' : Blk X.drew w.heap.size 30 #[.string (gD st.iss), .string (gD st.sub), .string (gD st.jti)] := k1
    have k2' : Blk X.drew (w.heap.size + 1) 31 #[.bool st.iss.isSome, .bool st.sub.isSome, .bool st.jti.isSome] := k2
    clear k1 k2
    refine bodyPost_ret (v := .tuple #[.agg #[.string (gD st.iss), .string (gD st.sub), .string (gD st.jti)], .agg #[.bool st.iss.isSome, .bool st.sub.isSome, .bool st.jti.isSome]]) ?_ rfl ⟨rfl, hBB.drew⟩
    refine results_two _ _ w.heap.size (w.heap.size + 1) _ _ ?_ ?_ k1' k2' rfl rfl
    · rfl
    · rfl
end Go.Proofs.YtlahgmfpdfblkaaGreat.Cl
