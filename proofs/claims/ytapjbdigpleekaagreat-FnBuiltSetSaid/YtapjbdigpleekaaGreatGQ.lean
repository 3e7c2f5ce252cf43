import Derived.Test.YtapjbdigpleekaaGreatGP
import Derived.Test.YtapjbdigpleekaaGreatGF
/- impl.stepped of four kinds of maps; a clone among the steps is asked for by CloneOk. The conditions are on what lies in memory. -/
set_option linter.unusedVariables false
set_option linter.unusedSimpArgs false
namespace Go.Proofs.YtapjbdigpleekaaGreat.Mp
open Go.RowKit Go.Proofs.YtapjbdigpleekaaGreat.K Go.Proofs.YtapjbdigpleekaaGreat.Cl
/-- A clone comes back. -/
def ClonedP (k : Nat) (S : List NP) (w : World) (e : Ending) (w' : World) : Prop := ∃ g', e = .returned (.tuple #[.iface (ptK k) (.pointer (some ⟨g', 0, none⟩)), .bool true]) ∧ Below w.heap.size w w' ∧ ∃ S', S'.Perm S ∧ Hd k w' w.heap.size g' S'
def CloneOk (k : Nat) : Prop := ∀ (w : World) (B g : Nat) (S : List NP), Hd k w B g S → Good k S → S.length ≤ 100000 → Calls Tryz.prog 81 #[.iface (ptK k) (.pointer (some ⟨g, 0, none⟩))] w (ClonedP k S w)
/-- What Set gives, as it is asked for. -/
def SetQ (k B g : Nat) (S : List NP) (s : StepT) (w : World) (e : Ending) (w' : World) : Prop := ∃ r b, e = .returned r ∧ (∀ W : World, Sem.run Tryz.prog (binOp .eql 139 r .nilIface) W = .ok (.bool b) W) ∧ (∀ (i : Nat) (W : World), Sem.run Tryz.prog (eqGuard .eql 139 (.tmp i) (.const .nilIface) r .nilIface) W = .ok () W) ∧ b = (stepS k S s).1 ∧ Hd k w' B g (stepS k S s).2 ∧ Below B w w' ∧ Keep w g w'
theorem eq_nil1 (W : World) : Sem.run Tryz.prog (binOp .eql 139 .nilIface .nilIface) W = .ok (.bool true) W := by kernel_rfl
theorem eq_nil2 (T : TypeId) (u : Value) (W : World) : Sem.run Tryz.prog (binOp .eql 139 (.iface T u) .nilIface) W = .ok (.bool false) W := by kernel_rfl
theorem eq_g1 (i : Nat) (W : World) : Sem.run Tryz.prog (eqGuard .eql 139 (.tmp i) (.const .nilIface) .nilIface .nilIface) W = .ok () W := by kernel_rfl
theorem eq_g2 (T : TypeId) (u : Value) (i : Nat) (W : World) : Sem.run Tryz.prog (eqGuard .eql 139 (.tmp i) (.const .nilIface) (.iface T u) .nilIface) W = .ok () W := by kernel_rfl
theorem set_q {k B g : Nat} {S : List NP} {n : ByteArray} {x : PV} {w w' : World} {e : Ending} (h : SetP k B g S n x w e w') : SetQ k B g S (0, n, x) w e w' := by
  unfold SetP at h
  unfold SetQ stepS
  simp only [if_true]
  split at h
  · rename_i y hy
    obtain ⟨rfl, h1, h2, h3⟩ := h
    try rw [hy]
    exact ⟨_, true, rfl, eq_nil1, eq_g1, rfl, h1, h2, h3⟩
  · rename_i hy
    obtain ⟨⟨T, u, rfl⟩, h1, h2, h3⟩ := h
    try rw [hy]
    exact ⟨_, false, rfl, eq_nil2 T u, eq_g2 T u, rfl, h1, h2, h3⟩
theorem Hd.nb {k : Nat} {w : World} {B g : Nat} {S : List NP} (h : Hd k w B g S) : ∀ cs T z, w.heap[g]? = some (.cells cs T z) → T ≠ 4 := by
  intro cs T z hc
  obtain ⟨cs', m, hp⟩ := h
  have := hp.blk
  unfold Blk at this
  rw [hc] at this
  injection this with this
  injection this with _ ht
  rw [ht]
  exact (tyK_ne k).2
/-- What lies there in a round. -/
structure SR (k : Nat) (S : List NP) (ss : List Ms) (w : World) (B : Nat) (wr : World) (j g : Nat) (A : Option Addr) (n c : Nat) : Prop where
  hd : ∃ S' B', Hd k wr B' g S' ∧ B ≤ B' ∧ B' ≤ wr.heap.size ∧ Same S' (runS k ((ss.take j).map stT) S).2 ∧ Good k S' ∧ S'.length ≤ S.length + j
  bo : BO wr B (.slice A n c) (runS k ((ss.take j).map stT) S).1
  len : n = j
  below : Below B w wr
theorem take_map (ss : List Ms) (j : Nat) (hj : j < ss.length) : (ss.take (j + 1)).map stT = (ss.take j).map stT ++ [stT ss[j]] := by
  rw [List.take_succ_eq_append_getElem hj, List.map_append, List.map_singleton]
theorem SR.next {k : Nat} {S : List NP} {ss : List Ms} {w : World} {B : Nat} {wr w4 w8 : World} {j g g2 : Nat} {A : Option Addr} {n c : Nat} (h : SR k S ss w B wr j g A n c) (hj : j < ss.length) {S1 S2 : List NP} {B2 : Nat} {b : Bool}
    (h1 : Same S1 (runS k ((ss.take j).map stT) S).2) (hb : b = (stepS k S1 (stT ss[j])).1) (hd : Hd k w4 B2 g2 S2) (hS2 : Same S2 (stepS k S1 (stT ss[j])).2) (hG : Good k S2) (hl : S2.length ≤ S.length + (j + 1)) (hB2 : B ≤ B2) (hB3 : B2 ≤ w4.heap.size) (hbw : Below B w w4)
    {A8 : Option Addr} {n8 c8 : Nat} {r : Option Nat} (hbo : BO w8 B (.slice A8 n8 c8) ((runS k ((ss.take j).map stT) S).1 ++ [b])) (hg : w4.grownBy w8 r) (hs : Safe w4 r) (hr : ∀ i, r = some i → B ≤ i ∧ ∃ cs z, w4.heap[i]? = some (.cells cs 4 z)) (hn : n8 = n + 1) :
    SR k S ss w B w8 (j + 1) g2 A8 n8 c8 := by
  have e := take_map ss j hj
  obtain ⟨q1, q2⟩ := stepS_same (k := k) h1 (stT ss[j])
  refine ⟨⟨S2, B2, hd.row hg hs (fun i hi => (hr i hi).2), hB2, Nat.le_trans hB3 hg.size, ?_, hG, hl⟩, ?_, by rw [hn, h.len], hbw.grown hg (Nat.le_trans hB2 hB3) (fun i hi => (hr i hi).1)⟩
  · rw [e, runS_snoc]
    exact hS2.trans q2
  · rw [e, runS_snoc, ← q1, ← hb]
    exact hbo
def StepdQ (PT k B : Nat) (S : List NP) (ss : List Ms) (w : World) (e : Ending) (w' : World) : Prop := ∃ A n c g' B' S', e = .returned (.tuple #[.slice A n c, .iface PT (.pointer (some ⟨g', 0, none⟩))]) ∧
  BO w' B (.slice A n c) (runS k (ss.map stT) S).1 ∧ n = ss.length ∧ Hd k w' B' g' S' ∧ B ≤ B' ∧ B' ≤ w'.heap.size ∧ Same S' (runS k (ss.map stT) S).2 ∧ Good k S' ∧ S'.length ≤ S.length + ss.length ∧ Below B w w'
def StepdP (k B : Nat) (S : List NP) (ss : List Ms) (w : World) (e : Ending) (w' : World) : Prop := StepdQ (ptK k) k B S ss w e w'
theorem sd_below (w : World) (B : Nat) : Below B w w.drew := ⟨rfl, rfl, rfl, Nat.le_refl _, fun _ _ => rfl⟩
theorem seven_cells {w : World} {g : Nat} {T : TypeId} {a0 a b c d e f : Value} (h : Blk w g T #[a0, a, b, c, d, e, f]) : w.cell? ⟨g, 1, none⟩ = some a ∧ w.cell? ⟨g, 2, none⟩ = some b ∧ w.cell? ⟨g, 3, none⟩ = some c ∧ w.cell? ⟨g, 4, none⟩ = some d ∧ w.cell? ⟨g, 5, none⟩ = some e ∧ w.cell? ⟨g, 6, none⟩ = some f :=
  ⟨by rw [h.cell]; rfl, by rw [h.cell]; rfl, by rw [h.cell]; rfl, by rw [h.cell]; rfl, by rw [h.cell]; rfl, by rw [h.cell]; rfl⟩
set_option maxRecDepth 100000 in
set_option maxHeartbeats 16000000 in
theorem stepped_calls {k : Nat} (hk : k < 4) {w0 w : World} {B g : Nat} {S : List NP} (h : Hd k w B g S) (hG : Good k S) {A : Option Addr} {n c : Nat} {ss : List Ms} (hm : ML w0 A n ss) (hw0 : Below w0.heap.size w0 w) (h0B : w0.heap.size ≤ B)
    (hin : ∀ s ∈ ss, FdIn k s.f) (hsz : S.length + n ≤ 100000) (hB : B ≤ w.heap.size) (hC : (∀ s ∈ ss, s.kd ≠ 3) ∨ CloneOk k) :
    Calls Tryz.prog 69 #[.iface (ptK k) (.pointer (some ⟨g, 0, none⟩)), .slice A n c] w (StepdP k B S ss w) := by
  have HSE := Lib.hid (fun (W : World) (B g : Nat) (S : List NP) (nm : ByteArray) (v : Value) (x : PV) (h : Hd k W B g S) (hr : nm ∉ othL k) (hv : PVal W 0 v x) (hx : x.ok) (hB : B ≤ W.heap.size) => (Set_calls hk h hr hv hx hB).mono (fun e w' h => set_q h))
  have HRE := Lib.hid (fun (W : World) (B g : Nat) (S : List NP) (nm : ByteArray) (h : Hd k W B g S) (hr : nm ∉ othL k) (hB : B ≤ W.heap.size) => Remove_calls hk h hr hB)
  have HHA := Lib.hid (fun (W : World) (B g : Nat) (S : List NP) (nm : ByteArray) (h : Hd k W B g S) (hr : nm ∉ othL k) => Has_calls hk h hr)
  have a1 := fun (g : Nat) W => (mSet (g := g) hk W).1
  have a2 := fun (g : Nat) W => (mSet (g := g) hk W).2.1
  have a3 := fun W => (mSet (g := 0) hk W).2.2
  have b1 := fun (g : Nat) W => (mRemove (g := g) hk W).1
  have b2 := fun (g : Nat) W => (mRemove (g := g) hk W).2.1
  have b3 := fun W => (mRemove (g := 0) hk W).2.2
  have c1 := fun (g : Nat) W => (mHas (g := g) hk W).1
  have c2 := fun (g : Nat) W => (mHas (g := g) hk W).2.1
  have c3 := fun W => (mHas (g := 0) hk W).2.2
  have HIN := Lib.hid hin
  have HML := Lib.hid (And.intro hm (And.intro hw0 h0B))
  have HLN := Lib.hid hm.len
  have HCL := Lib.hid hC
  have HSZ := Lib.hid hsz
  have HR0 : Hid (SR k S ss w B w 0 g none 0 0) := Lib.hid ⟨⟨S, B, h, Nat.le_refl _, hB, Same.refl _, hG, by omega⟩, ⟨World.ownsRow_nil _ _ _ _, fun _ => rfl⟩, rfl, Below.refl _ _⟩
  have HCP : Hid (∀ (w : World) (B g : Nat) (S : List NP), CloneOk k → Hd k w B g S → Good k S → S.length ≤ 100000 → Calls Tryz.prog 81 #[.iface (ptK k) (.pointer (some ⟨g, 0, none⟩))] w (ClonedP k S w)) := Lib.hid (fun w B g S hc => hc w B g S)
  unfold ClonedP at HCP
  unfold StepdP
  generalize ptK k = PT at HCP a1 a2 b1 b2 c1 c2 ⊢
  generalize fSet k = FS at HSE a2 a3
  generalize fRem k = FR at HRE b2 b3
  generalize fHas k = FH at HHA c2 c3
  clear h hG hm hw0 h0B hin hsz hB hC
  go_enter Tryz.func69, Tryz.ntmps69
  go_wp2_with fail
  go_loopg [0, 6, 9, 10, 11, 14] n (fun q v0 v6 v9 v10 v11 v14 wr => ∃ (j g' : Nat) (A' : Option Addr) (n' c' : Nat), q + j = n ∧ v14 = .int .i64 (j : Nat) ∧ v0 = .iface PT (.pointer (some ⟨g', 0, none⟩)) ∧ v6 = .slice A' n' c' ∧ Hid (SR k S ss w B wr j g' A' n' c'))
  case atStart => exact ⟨0, g, none, 0, 0, rfl, rfl, rfl, rfl, HR0⟩
  case round =>
    clear HR0
    obtain ⟨j, g', A', n', c', hqj, rfl, rfl, rfl, HR⟩ := hrel
    have hsz := HSZ.out
    by_cases hj : j < n
    · have hjl : j < ss.length := by have := HLN.out; omega
      have hji : (j : Int) < (n : Int) := by omega
      obtain ⟨S1, B1, hh1, hB1, hB1w, hS1, hG1, hl1⟩ := HR.out.hd
      have hmw := HML.out.1.below (HML.out.2.1.trans (HR.out.below.mono HML.out.2.2)) (Nat.le_refl _)
      obtain ⟨ad, rfl, y0, y1, y2, y3, y4, y5, y6, hsl⟩ := hmw.at_ hjl
      have hfi := HIN.out _ (List.getElem_mem hjl)
      have hc3 : ss[j].kd ≠ 3 ∨ CloneOk k := HCL.out.imp (fun h => h _ (List.getElem_mem hjl)) id
      have HNX : Hid (∀ {S2 : List NP} {B2 g2 : Nat} {w4 w8 : World} {b : Bool}, b = (stepS k S1 (stT ss[j])).1 → Hd k w4 B2 g2 S2 → Same S2 (stepS k S1 (stT ss[j])).2 → Good k S2 → S2.length ≤ S.length + (j + 1) → B ≤ B2 → B2 ≤ w4.heap.size → Below B w w4 →
          ∀ {A8 : Option Addr} {n8 c8 : Nat} {r : Option Nat}, BO w8 B (.slice A8 n8 c8) ((runS k ((ss.take j).map stT) S).1 ++ [b]) → w4.grownBy w8 r → Safe w4 r → (∀ i, r = some i → B ≤ i ∧ ∃ cs z, w4.heap[i]? = some (.cells cs 4 z)) → n8 = n' + 1 → SR k S ss w B w8 (j + 1) g2 A8 n8 c8) :=
        Lib.hid (fun q1 q2 q3 q4 q5 q6 q7 q8 _ _ _ _ q9 q10 q11 q12 q13 => HR.out.next hjl hS1 q1 q2 q3 q4 q5 q6 q7 q8 q9 q10 q11 q12 q13)
      obtain ⟨s, hs⟩ : ∃ s, s = ss[j] := ⟨_, rfl⟩
      rw [← hs] at y0 y1 y2 y3 y4 y5 y6 hsl hfi hc3 HNX
      obtain ⟨kd, nm, kk, t, b, z, A2, n2, c2', l2⟩ := s
      simp only at y0 y1 y2 y3 y4 y5 y6 hsl hfi hc3
      have HS1 := Lib.hid (And.intro hh1 (And.intro hB1 (And.intro hB1w (And.intro hG1 hl1))))
      have HBO := Lib.hid (And.intro HR.out.bo (And.intro HR.out.len HR.out.below))
      have HFI := Lib.hid (And.intro hfi (And.intro hsl hc3))
      have HBL : Hid (n' = (runS k ((ss.take j).map stT) S).1.length) := Lib.hid (by rw [runS_len, List.length_map, List.length_take, HR.out.len]; omega)
      obtain ⟨bs, hbs⟩ : ∃ bs, bs = (runS k ((ss.take j).map stT) S).1 := ⟨_, rfl⟩
      rw [← hbs] at HBO HNX HBL
      clear hs hh1 hB1 hB1w hS1 hG1 hl1 hmw hfi hsl hc3 hbs
      obtain ⟨wB, hwB⟩ : ∃ wB, wB = wr.alloc (.cells #[.int .i64 kd, .string nm, .int .i64 kk, .string t, .bool b, .int .i32 z, .slice A2 n2 c2'] 52) := ⟨_, rfl⟩
      have hBF : Below wr.heap.size wr wB := by rw [hwB]; exact below_alloc' (Below.refl wr.heap.size wr) _
      have hKF : Blk wB wr.heap.size 52 #[.int .i64 kd, .string nm, .int .i64 kk, .string t, .bool b, .int .i32 z, .slice A2 n2 c2'] := by rw [hwB]; exact Blk.new wr _ _
      have HBF := Lib.hid (And.intro hBF hKF)
      have HHF := Lib.hid (HS1.out.1.below hBF)
      have HBOF := Lib.hid (HBO.out.1.below hBF)
      have HBWF := Lib.hid (HBO.out.2.2.trans (hBF.mono (Nat.le_trans HS1.out.2.1 HS1.out.2.2.1)))
      have HSLF := Lib.hid (HFI.out.2.1.below hBF (Nat.le_refl _))
      have HSZF := Lib.hid (show B1 ≤ wB.heap.size from Nat.le_trans HS1.out.2.2.1 hBF.size)
      have HNL : Hid (n' < 1000000) := Lib.hid (by have := HBO.out.2.1; omega)
      clear hKF hBF
      by_cases k0 : kd = 0
      · subst k0
        go_upto_region 8 with (fail)
        rw [← hwB]
        clear hwB y0 y1 y2 y3 y4 y5 y6
        have HV := Lib.hid (valueP_calls wB.drew kk t b z A2 n2 c2' l2 HSLF.out HFI.out.1.2.2.1 HFI.out.1.1 HFI.out.1.2.1)
        have HKD : Hid (Blk wB.drew wr.heap.size 52 #[.int .i64 0, .string nm, .int .i64 kk, .string t, .bool b, .int .i32 z, .slice A2 n2 c2']) := HBF.out.2
        have HG2 := Lib.hid (show wr.heap.size ≠ g' by have := HS1.out.1.lt; omega)
        go_region_held3 (fun W => W.cell? ⟨wr.heap.size, 1, none⟩ = some (.string nm) ∧ W.cell? ⟨wr.heap.size, 2, none⟩ = some (.int .i64 kk) ∧ W.cell? ⟨wr.heap.size, 3, none⟩ = some (.string t) ∧ W.cell? ⟨wr.heap.size, 4, none⟩ = some (.bool b) ∧ W.cell? ⟨wr.heap.size, 5, none⟩ = some (.int .i32 z) ∧ W.cell? ⟨wr.heap.size, 6, none⟩ = some (.slice A2 n2 c2')) (first | exact seven_cells HK4.out | exact seven_cells HK3.out | exact seven_cells HKD.out) (first
          | ((with_reducible refine Calls.mono HV.out ?_); rintro e w3 ⟨v, rfl, hpv, hB3⟩; have HK3 := Lib.hid (HKD.out.below hB3 HKD.out.lt); have HB3 := Lib.hid ((sd_below wB wB.heap.size).trans hB3); have HST := Lib.hid (HSE.out w3 B1 g' S1 nm v _ (HHF.out.below HB3.out) HFI.out.1.2.2.2.2 (hpv.base (Nat.zero_le _)) HFI.out.1.2.2.2.1 (Nat.le_trans HSZF.out HB3.out.size)); clear hpv hB3 HV)
          | ((with_reducible refine Calls.mono HST.out ?_); rintro e w4 ⟨r4, b4, rfl, hq4, hqg4, hb4, hh4, hB4, hK4⟩; have HK4 := Lib.hid (show Blk w4 wr.heap.size 52 _ from hK4.cells HK3.out HG2.out); have H4 := Lib.hid (And.intro hb4 (And.intro hh4 (And.intro hB4 hK4))); clear hb4 hh4 hB4 hK4 HST))
        all_goals
          have HH3 := Lib.hid (HHF.out.below HB3.out)
          have HBO4 := Lib.hid ((HBOF.out.below HB3.out).keep H4.out.2.2.2 HH3.out.nb)
          have HSZ4 := Lib.hid (show B1 ≤ w4.heap.size from Nat.le_trans HSZF.out (Nat.le_trans HB3.out.size H4.out.2.2.1.size))
          have HBW4 := Lib.hid ((HBWF.out.trans (HB3.out.mono (Nat.le_trans HS1.out.2.1 HSZF.out))).trans (H4.out.2.2.1.mono HS1.out.2.1))
          go_wp2_with (at_builtin; refine own_appB HBO4.out (Nat.le_trans HS1.out.2.1 HSZ4.out) HBL.out HNL.out rfl _ _ rfl rfl rfl ?_; intro A8 c8 w8 r8 hbo8 hg8 hs8 hr8; have H8 := Lib.hid (And.intro hbo8 (And.intro hg8 (And.intro hs8 hr8))); clear hbo8 hg8 hs8 hr8)
          go_roundg (n - (j + 1))
          case measure => omega
          case rel => exact ⟨j + 1, g', A8, n' + 1, c8, by omega, by go_num, rfl, rfl, HNX.out H4.out.1 H4.out.2.1 (Same.refl _) (HS1.out.2.2.2.1.step (s := (0, nm, pvOf kk t b z l2)) ⟨HFI.out.1.2.2.2.1, HFI.out.1.2.2.2.2⟩).1 (by have := (HS1.out.2.2.2.1.step (s := (0, nm, pvOf kk t b z l2)) ⟨HFI.out.1.2.2.2.1, HFI.out.1.2.2.2.2⟩).2; have := HS1.out.2.2.2.2; exact Nat.le_trans ‹_› (by omega)) HS1.out.2.1 HSZ4.out HBW4.out H8.out.1 H8.out.2.1 H8.out.2.2.1 H8.out.2.2.2 rfl⟩
      have b0 : (kd == 0) = false := by rw [beq_eq_false_iff_ne]; exact k0
      by_cases k1 : kd = 1
      · subst k1
        subst hwB
        have HRM := Lib.hid (HRE.out _ B1 g' S1 nm HHF.out HFI.out.1.2.2.2.2 HSZF.out)
        go_wp2_with (first
          | ((with_reducible refine Calls.mono HRM.out ?_); rintro e w4 ⟨rfl, hh4, hB4, hK4⟩; have H4 := Lib.hid (And.intro hh4 (And.intro hB4 hK4)); have HBO4 := Lib.hid (HBOF.out.keep hK4 HHF.out.nb); have HSZ4 := Lib.hid (show B1 ≤ w4.heap.size from Nat.le_trans HSZF.out hB4.size); clear hh4 hB4 hK4 HRM)
          | (at_builtin; refine own_appB HBO4.out (Nat.le_trans HS1.out.2.1 HSZ4.out) HBL.out HNL.out rfl _ _ rfl rfl rfl ?_; intro A8 c8 w8 r8 hbo8 hg8 hs8 hr8; have H8 := Lib.hid (And.intro hbo8 (And.intro hg8 (And.intro hs8 hr8))); clear hbo8 hg8 hs8 hr8))
        go_roundg (n - (j + 1))
        case measure => omega
        case rel => exact ⟨j + 1, g', A8, n' + 1, c8, by omega, by go_num, rfl, rfl, HNX.out rfl H4.out.1 (Same.refl _) (HS1.out.2.2.2.1.step (s := (1, nm, pvOf kk t b z l2)) ⟨HFI.out.1.2.2.2.1, HFI.out.1.2.2.2.2⟩).1 (by have := (HS1.out.2.2.2.1.step (s := (1, nm, pvOf kk t b z l2)) ⟨HFI.out.1.2.2.2.1, HFI.out.1.2.2.2.2⟩).2; have := HS1.out.2.2.2.2; exact Nat.le_trans ‹_› (by omega)) HS1.out.2.1 HSZ4.out (HBWF.out.trans (H4.out.2.1.mono HS1.out.2.1)) H8.out.1 H8.out.2.1 H8.out.2.2.1 H8.out.2.2.2 rfl⟩
      have b1 : (kd == 1) = false := by rw [beq_eq_false_iff_ne]; exact k1
      by_cases k2 : kd = 2
      · subst k2
        go_upto_region 6 with (fail)
        rw [← hwB]
        clear hwB y0 y1 y2 y3 y4 y5 y6
        have d0 : wB.cell? ⟨wr.heap.size, 0, none⟩ = some (.int .i64 2) := (HBF.out.2.cell 0).trans rfl
        have d1 : wB.cell? ⟨wr.heap.size, 1, none⟩ = some (.string nm) := (HBF.out.2.cell 1).trans rfl
        have HHS := Lib.hid (HHA.out _ B1 g' S1 nm HHF.out HFI.out.1.2.2.2.2)
        obtain ⟨rb, hrb⟩ : ∃ rb, rb = (lookG S1 nm).isSome := ⟨_, rfl⟩
        rw [← hrb] at HHS
        have HRB := Lib.hid hrb
        clear hrb
        go_wp2_with (first
          | ((with_reducible refine Calls.mono HHS.out ?_); rintro e w4 ⟨rfl, rfl⟩; clear HHS)
          | (at_builtin; refine own_appB HBOF.out (Nat.le_trans HS1.out.2.1 HSZF.out) HBL.out HNL.out rfl _ _ rfl rfl rfl ?_; intro A8 c8 w8 r8 hbo8 hg8 hs8 hr8; have H8 := Lib.hid (And.intro hbo8 (And.intro hg8 (And.intro hs8 hr8))); clear hbo8 hg8 hs8 hr8))
        go_roundg (n - (j + 1))
        case measure => omega
        case rel => exact ⟨j + 1, g', A8, n' + 1, c8, by omega, by go_num, rfl, rfl, HNX.out HRB.out HHF.out (Same.refl _) HS1.out.2.2.2.1 (by have := HS1.out.2.2.2.2; omega) HS1.out.2.1 HSZF.out HBWF.out H8.out.1 H8.out.2.1 H8.out.2.2.1 H8.out.2.2.2 rfl⟩
      have b2 : (kd == 2) = false := by rw [beq_eq_false_iff_ne]; exact k2
      have HST : Hid (stepS k S1 (stT ⟨kd, nm, kk, t, b, z, A2, n2, c2', l2⟩) = (true, S1)) := Lib.hid (by
        unfold stepS stT
        simp only [if_neg k0, if_neg k1, if_neg k2])
      by_cases k3 : kd = 3
      · subst k3
        subst hwB
        have HCO : Hid (CloneOk k) := Lib.hid (HFI.out.2.2.resolve_left (fun h => h rfl))
        have HCC := Lib.hid (HCP.out _ B1 g' S1 HCO.out HHF.out HS1.out.2.2.2.1 (by have := HS1.out.2.2.2.2; omega))
        go_wp2_with (first
          | (go_at_call 81; (with_reducible refine Calls.mono HCC.out ?_); rintro e w4 ⟨g2, rfl, hB4, S2, hp2, hh2⟩; have H4 := Lib.hid (And.intro hB4 (And.intro hp2 hh2)); have HBO4 := Lib.hid (HBOF.out.below hB4); have HBW4 := Lib.hid (HBWF.out.trans (hB4.mono (Nat.le_trans HS1.out.2.1 HSZF.out))); clear hB4 hp2 hh2 HCC)
          | (at_builtin; refine own_appB HBO4.out (Nat.le_trans HS1.out.2.1 (Nat.le_trans HSZF.out H4.out.1.size)) HBL.out HNL.out rfl _ _ rfl rfl rfl ?_; intro A8 c8 w8 r8 hbo8 hg8 hs8 hr8; have H8 := Lib.hid (And.intro hbo8 (And.intro hg8 (And.intro hs8 hr8))); clear hbo8 hg8 hs8 hr8))
        go_roundg (n - (j + 1))
        case measure => omega
        case rel => exact ⟨j + 1, g2, A8, n' + 1, c8, by omega, by go_num, rfl, rfl, HNX.out (by rw [HST.out]) H4.out.2.2 (by rw [HST.out]; exact same_of_perm H4.out.2.1 H4.out.2.2.nd) (HS1.out.2.2.2.1.perm H4.out.2.1.symm) (by rw [H4.out.2.1.length_eq]; have := HS1.out.2.2.2.2; omega) (Nat.le_trans HS1.out.2.1 HSZF.out) H4.out.1.size HBW4.out H8.out.1 H8.out.2.1 H8.out.2.2.1 H8.out.2.2.2 rfl⟩
      have b3' : (kd == 3) = false := by rw [beq_eq_false_iff_ne]; exact k3
      go_upto_region 6 with (fail)
      rw [← hwB]
      clear hwB y0 y1 y2 y3 y4 y5 y6
      have d0 : wB.cell? ⟨wr.heap.size, 0, none⟩ = some (.int .i64 kd) := (HBF.out.2.cell 0).trans rfl
      have d1 : wB.cell? ⟨wr.heap.size, 1, none⟩ = some (.string nm) := (HBF.out.2.cell 1).trans rfl
      go_wp2_with (at_builtin; refine own_appB HBOF.out (Nat.le_trans HS1.out.2.1 HSZF.out) HBL.out HNL.out rfl _ _ rfl rfl rfl ?_; intro A8 c8 w8 r8 hbo8 hg8 hs8 hr8; have H8 := Lib.hid (And.intro hbo8 (And.intro hg8 (And.intro hs8 hr8))); clear hbo8 hg8 hs8 hr8)
      go_roundg (n - (j + 1))
      case measure => omega
      case rel => exact ⟨j + 1, g', A8, n' + 1, c8, by omega, by go_num, rfl, rfl, HNX.out (by rw [HST.out]) HHF.out (by rw [HST.out]; exact Same.refl _) HS1.out.2.2.2.1 (by have := HS1.out.2.2.2.2; omega) HS1.out.2.1 HSZF.out HBWF.out H8.out.1 H8.out.2.1 H8.out.2.2.1 H8.out.2.2.2 rfl⟩
    · have hji : ¬ (j : Int) < (n : Int) := by omega
      obtain rfl : j = n := by omega
      have HTK : Hid ((ss.take j).map stT = ss.map stT) := Lib.hid (by rw [List.take_of_length_le (by have := HLN.out; omega)])
      go_wp2
      obtain ⟨S1, B1, hh1, hB1, hB1w, hS1, hG1, hl1⟩ := HR.out.hd
      have hbo := HR.out.bo
      rw [HTK.out] at hS1 hbo
      exact bodyPost_ret (v := .tuple #[.slice A' n' c', .iface PT (.pointer (some ⟨g', 0, none⟩))]) (by kernel_rfl) rfl ⟨A', n', c', g', B1, S1, rfl, hbo, by rw [HR.out.len]; exact HLN.out, hh1, hB1, hB1w, hS1, hG1, by rw [← HLN.out]; exact hl1, HR.out.below⟩
end Go.Proofs.YtapjbdigpleekaaGreat.Mp

/- impl.Mapped of four kinds of maps; the conditions are on what lies in memory. -/
set_option linter.unusedVariables false
set_option linter.unusedSimpArgs false
namespace Go.Proofs.YtapjbdigpleekaaGreat.Mp
open Go.RowKit Go.Proofs.YtapjbdigpleekaaGreat.K Go.Proofs.YtapjbdigpleekaaGreat.Cl
/-- What steps give, and the fields behind them. -/
def MappedP (k : Nat) (ss : List Ms) (w : World) (e : Ending) (w' : World) : Prop := ∃ A1 n1 c1 A2 n2 c2 fs, e = .returned (.tuple #[.slice A1 n1 c1, .slice A2 n2 c2]) ∧ BO w' w.heap.size (.slice A1 n1 c1) (runS k (ss.map stT) []).1 ∧ n1 = ss.length ∧
  FO w' w.heap.size (.slice A2 n2 c2) fs ∧ n2 = fs.length ∧ (fs.map fld).Perm (runS k (ss.map stT) []).2 ∧ SortedN fs ∧ Below w.heap.size w w'
theorem stT_ok {k : Nat} {ss : List Ms} (h : ∀ s ∈ ss, FdIn k s.f) : ∀ s ∈ ss.map stT, StOk k s := by
  intro s hs
  obtain ⟨m, hm, rfl⟩ := List.mem_map.1 hs
  exact ⟨(h m hm).2.2.2.1, (h m hm).2.2.2.2⟩
set_option maxHeartbeats 2000000 in
theorem Mapped_calls {k : Nat} (hk : k < 4) {w : World} {A : Option Addr} {n c : Nat} {ss : List Ms} (hm : ML w A n ss) (hin : ∀ s ∈ ss, FdIn k s.f) (hn : n ≤ 100000) (hC : (∀ s ∈ ss, s.kd ≠ 3) ∨ CloneOk k) :
    Calls Tryz.prog 30 #[.int .i64 (k : Int), .slice A n c] w (MappedP k ss w) := by
  have HF := Lib.hid (fresh_k w k hk)
  have HST := Lib.hid (fun w1 g (h : Hd k w1 w.heap.size g []) (hb : Below w.heap.size w w1) => stepped_calls (c := c) hk h (Good.nil k) hm hb (Nat.le_refl _) hin (by simpa using hn) hb.size hC)
  have HTO := Lib.hid (fun w1 B g S (h : Hd k w1 B g S) (hS : S.length ≤ 100000) (hG : Good k S) => told_calls hk h hS hG.oth)
  have HLN := Lib.hid hm.len
  have HIN := Lib.hid (stT_ok hin)
  have HN := Lib.hid hn
  clear hm hin hC hn
  unfold NewK at HF
  unfold StepdP at HST
  generalize ptK k = PT at HF HST HTO
  go_enter Tryz.func30, Tryz.ntmps30
  go_wp2_with fail
  refine HF.out.mono ?_
  rintro e w1 ⟨g, rfl, hh1, hb1⟩
  have H1 := Lib.hid (And.intro hh1 hb1)
  have HS1 := Lib.hid (HST.out w1 g hh1 hb1)
  clear hh1 hb1 HF HST
  go_wp2_with fail
  refine HS1.out.mono ?_
  rintro e w2 ⟨A1, n1, c1, g2, B2, S2, rfl, hbo, hn1, hh2, hB2, hB2w, hs2, hg2, hl2, hb2⟩
  have H2 := Lib.hid (And.intro hbo (And.intro hn1 (And.intro hs2 (And.intro hg2 (H1.out.2.trans hb2)))))
  have HT2 := Lib.hid (HTO.out w2 B2 g2 S2 hh2 (by have h1 := HLN.out; have h2 := HN.out; simp only [List.length_nil, Nat.zero_add] at hl2; omega) hg2)
  clear hbo hn1 hh2 hB2 hB2w hs2 hg2 hl2 hb2 HS1 HTO
  go_wp2_with fail
  refine HT2.out.mono ?_
  rintro e w3 ⟨A3, n3, c3, fs, rfl, hn3, hfo, hpm, hsrt, hb3⟩
  have H3 := Lib.hid (And.intro hn3 (And.intro hfo (And.intro hpm (And.intro hsrt hb3))))
  clear hn3 hfo hpm hsrt hb3 HT2
  go_wp2
  have hgr := (Good.run (k := k) (ss.map stT) (Good.nil k) HIN.out).1
  exact bodyPost_ret (v := .tuple #[.slice A1 n1 c1, .slice A3 n3 c3]) (by kernel_rfl) rfl ⟨A1, n1, c1, A3, n3, c3, fs, rfl, H2.out.1.below H3.out.2.2.2.2, H2.out.2.1, H3.out.2.1.base H2.out.2.2.2.2.size, H3.out.1, H3.out.2.2.1.trans (H2.out.2.2.1.perm H2.out.2.2.2.1.nd hgr.nd), H3.out.2.2.2.1, H2.out.2.2.2.2.trans (H3.out.2.2.2.2.mono H2.out.2.2.2.2.size)⟩
end Go.Proofs.YtapjbdigpleekaaGreat.Mp
