import Derived.Test.YtapjbdigpleekaaGreatHMpBuild
import Derived.Test.YtapjbdigpleekaaGreatGP
/- impl.built and impl.Built: the token of a list of claims. The conditions are on what lies in memory. -/
set_option linter.unusedVariables false
set_option linter.unusedSimpArgs false
namespace Go.Proofs.YtapjbdigpleekaaGreat.Mp
open Go.RowKit Go.Proofs.YtapjbdigpleekaaGreat.K Go.Proofs.YtapjbdigpleekaaGreat.Cl
/-- The claims one behind the other. -/
def clm (fs : List Cl.Fd) : List NP := fs.foldl (fun S f => putG f.name (pvOf f.k f.t f.b f.z f.l) S) []
theorem clm_take {fs : List Cl.Fd} {j : Nat} (hj : j < fs.length) : clm (fs.take (j + 1)) = putG fs[j].name (pvOf fs[j].k fs[j].t fs[j].b fs[j].z fs[j].l) (clm (fs.take j)) := by
  unfold clm
  rw [List.take_succ_eq_append_getElem hj, List.foldl_append]
  rfl
theorem clm_app (fs : List Cl.Fd) (f : Cl.Fd) : clm (fs ++ [f]) = putG f.name (pvOf f.k f.t f.b f.z f.l) (clm fs) := by
  unfold clm
  rw [List.foldl_append]
  rfl
theorem clm_names : ∀ (fs : List Cl.Fd) (a : ByteArray), a ∈ (clm fs).map (·.1) → ∃ f ∈ fs, f.name = a := by
  intro fs a
  rw [← List.take_length (l := fs)]
  generalize hl : fs.length = l
  have hle : l ≤ fs.length := by omega
  clear hl
  induction l with
  | zero => intro h; simp [clm] at h
  | succ j ih =>
    intro h
    rw [clm_take (by omega)] at h
    rcases names_putG h with e | e
    · exact ⟨fs[j], by rw [List.take_succ_eq_append_getElem (by omega)]; exact List.mem_append_right _ (by simp), e.symm⟩
    · obtain ⟨f, hf, e⟩ := ih (by omega) e
      exact ⟨f, by rw [List.take_succ_eq_append_getElem (by omega)]; exact List.mem_append_left _ hf, e⟩
theorem clm_len (fs : List Cl.Fd) : (clm fs).length ≤ fs.length := by
  have : ∀ j, j ≤ fs.length → (clm (fs.take j)).length ≤ j := by
    intro j
    induction j with
    | zero => intro _; simp [clm]
    | succ j ih =>
      intro h
      rw [clm_take (by omega)]
      exact Nat.le_trans (putG_length _) (by have := ih (by omega); omega)
  have h := this fs.length (Nat.le_refl _)
  rwa [List.take_length] at h
/-- What impl.Built gives. -/
def BuiltP (B : Nat) (S : List NP) (w : World) (e : Ending) (w' : World) : Prop :=
  (∃ A n c gs T, e = .returned (.tuple #[.slice A n c, .bool true]) ∧ n = gs.length ∧ FO w' B (.slice A n c) gs ∧ (gs.map fld).Perm T ∧ SortedN gs ∧ (T.map (·.1)).Nodup ∧ (∀ n, lookG T n = tkn 2 S n) ∧ (∀ n ∈ S.map (·.1), tkn 2 S n ≠ none) ∧ Below B w w') ∨
  (∃ n, e = .returned (.tuple #[.slice none 0 0, .bool false]) ∧ n ∈ S.map (·.1) ∧ tkn 2 S n = none ∧ Below B w w')
theorem tok_names {S T : List NP} (h : ∀ n, lookG T n = tkn 2 S n) : ∀ p ∈ T, p.1 ∈ S.map (·.1) := by
  intro p hp
  refine Classical.byContradiction fun hc => ?_
  have h1 := h p.1
  unfold tkn at h1
  rw [lookG_none.2 hc] at h1
  exact lookG_none.1 h1 (List.mem_map_of_mem (f := (·.1)) hp)
set_option maxRecDepth 100000 in
set_option maxHeartbeats 8000000 in
theorem built_calls {w0 w : World} {B g : Nat} {mb : Option Nat} (h : Bld w B g mb []) {A : Option Addr} {n c : Nat} {fs : List Cl.Fd} (hl : FL w0 A n fs) (hw0 : Below w0.heap.size w0 w) (h0B : w0.heap.size ≤ B) (hin : ∀ f ∈ fs, FdIn 2 f) (hn : n ≤ 100000) (hB : B ≤ w.heap.size) :
    Calls Tryz.prog 75 #[.pointer (some ⟨g, 0, none⟩), .slice A n c] w (BuiltP B (clm fs) w) := by
  have HF := Lib.hid (And.intro hl (And.intro hw0 h0B))
  have HLN := Lib.hid hl.len
  have HIN := Lib.hid hin
  have HNB := Lib.hid (And.intro hn hB)
  have HCL := Lib.hid (fun (W : World) (mb : Option Nat) (S : List NP) (nm : ByteArray) (v : Value) (x : PV) (h : Bld W B g mb S) (hB : B ≤ W.heap.size) (hv : PVal W 0 v x) (hx : x.ok) => Claim_calls (n := nm) h hB hv hx)
  have HBU := Lib.hid (fun (W : World) (mb : Option Nat) (S : List NP) (h : Bld W B g mb S) (hB : B ≤ W.heap.size) (hO : ∀ p ∈ S, p.1 ∉ othL 2) => Build_calls h hB hO)
  have HTO : Hid (∀ (W : World) (B gt : Nat) (T : List NP), Hd 2 W B gt T → T.length ≤ 100000 → (∀ p ∈ T, p.1 ∉ othL 2) → Calls Tryz.prog 71 #[.iface 206 (.pointer (some ⟨gt, 0, none⟩))] W (ToldP T W)) := Lib.hid (fun W B gt T h hS hO => told_calls (k := 2) (by omega) h hS hO)
  have q1 := nq_1
  have q2 := nq_2
  have q3 := ng_2
  have HR0 : Hid (Bld w B g mb (clm (fs.take 0)) ∧ Below B w w) := Lib.hid ⟨h, Below.refl _ _⟩
  clear h hl hw0 h0B hin hn hB
  go_enter Tryz.func75, Tryz.ntmps75
  go_wp2_with fail
  go_loopg [12] n (fun q v12 wr => ∃ (j : Nat) (mb : Option Nat), q + j = n ∧ v12 = .int .i64 (j : Nat) ∧ Hid (Bld wr B g mb (clm (fs.take j)) ∧ Below B w wr))
  case atStart => exact ⟨0, mb, rfl, rfl, HR0⟩
  case round =>
    clear HR0
    obtain ⟨j, mb, hqj, rfl, HR⟩ := hrel
    by_cases hj : j < n
    · have hjl : j < fs.length := by have := HLN.out; omega
      have hji : (j : Int) < (n : Int) := by omega
      obtain ⟨ad, rfl, y0, y1, y2, y3, y4, y5, hsl⟩ := (HF.out.1.below (HF.out.2.1.trans (HR.out.2.mono HF.out.2.2)) (Nat.le_refl _)).at_ hjl
      have HST := Lib.hid (clm_take hjl)
      have HFI := Lib.hid (HIN.out _ (List.getElem_mem hjl))
      obtain ⟨S1, hS1⟩ : ∃ S1, S1 = clm (fs.take j) := ⟨_, rfl⟩
      obtain ⟨f, hf⟩ : ∃ f, f = fs[j] := ⟨_, rfl⟩
      rw [← hf] at y0 y1 y2 y3 y4 y5 HST hsl HFI
      rw [← hS1] at HST HR
      obtain ⟨wB, hwB⟩ : ∃ wB, wB = wr.alloc (.cells #[.string f.name, .int .i64 f.k, .string f.t, .bool f.b, .int .i32 f.z, .slice f.A f.n f.c] 45) := ⟨_, rfl⟩
      have HBF : Hid (Below wr.heap.size wr wB ∧ Blk wB wr.heap.size 45 #[.string f.name, .int .i64 f.k, .string f.t, .bool f.b, .int .i32 f.z, .slice f.A f.n f.c]) := Lib.hid (by rw [hwB]; exact ⟨below_alloc' (Below.refl wr.heap.size wr) _, Blk.new wr _ _⟩)
      have HBd := Lib.hid (HR.out.1.below HBF.out.1)
      have HBr := Lib.hid (show B ≤ wr.heap.size from Nat.le_trans HNB.out.2 HR.out.2.size)
      have HSLF := Lib.hid (hsl.below HBF.out.1 (Nat.le_refl _))
      clear hf hsl hS1
      go_upto_region 4 with (fail)
      rw [← hwB]
      clear hwB y0 y1 y2 y3 y4 y5
      have HV := Lib.hid (valueP_calls wB.drew f.k f.t f.b f.z f.A f.n f.c f.l HSLF.out HFI.out.2.2.1 HFI.out.1 HFI.out.2.1)
      have HKD : Hid (Blk wB.drew wr.heap.size 45 #[.string f.name, .int .i64 f.k, .string f.t, .bool f.b, .int .i32 f.z, .slice f.A f.n f.c]) := HBF.out.2
      have HG2 := Lib.hid (show wr.heap.size ≠ g by have := HR.out.1.blk.lt; omega)
      go_region_held3 (fun W => W.cell? ⟨wr.heap.size, 0, none⟩ = some (.string f.name) ∧ W.cell? ⟨wr.heap.size, 1, none⟩ = some (.int .i64 f.k) ∧ W.cell? ⟨wr.heap.size, 2, none⟩ = some (.string f.t) ∧ W.cell? ⟨wr.heap.size, 3, none⟩ = some (.bool f.b) ∧ W.cell? ⟨wr.heap.size, 4, none⟩ = some (.int .i32 f.z) ∧ W.cell? ⟨wr.heap.size, 5, none⟩ = some (.slice f.A f.n f.c)) (first | exact six_cells HK4.out | exact six_cells HK3.out | exact six_cells HKD.out) (first
        | ((with_reducible refine Calls.mono HV.out ?_); rintro e w3 ⟨v, rfl, hpv, hB3⟩; have HK3 := Lib.hid (HKD.out.below hB3 HKD.out.lt); have HB3 := Lib.hid ((sd_below wB wB.heap.size).trans hB3); have HSTC := Lib.hid (HCL.out w3 mb S1 f.name v _ (HBd.out.below HB3.out) (Nat.le_trans HBr.out (Nat.le_trans HBF.out.1.size HB3.out.size)) (hpv.base (Nat.zero_le _)) HFI.out.2.2.2.1); clear hpv hB3 HV)
        | ((with_reducible refine Calls.mono HSTC.out ?_); rintro e w4 ⟨m4, rfl, hb4, hB4, hK4⟩; have HK4 : Hid (Blk w4 wr.heap.size 45 _) := Lib.hid (by first | exact hK4.cells HK3.out HG2.out | exact hK4 _ _ _ _ HK3.out HG2.out); have H4 := Lib.hid (And.intro hb4 hB4); clear hb4 hB4 hK4 HSTC))
      all_goals
        have HB4 := Lib.hid (HR.out.2.trans (((HBF.out.1.trans (HB3.out.mono HBF.out.1.size)).mono HBr.out).trans H4.out.2))
        have hwj : IntKind.i64.wrap ((j : Int) + 1) = ((j + 1 : Nat) : Int) := by rw [wrap_small _ (by have := HNB.out.1; omega) (by have := HNB.out.1; omega)]; rfl
        go_wp2_with fail
        go_roundg (n - (j + 1))
        case measure => omega
        case rel => exact ⟨j + 1, some m4, by omega, by go_num, by rw [HST.out]; exact ⟨H4.out.1, HB4.out⟩⟩
    · have hji : ¬ (j : Int) < (n : Int) := by omega
      obtain rfl : j = n := by omega
      have hcl : clm (fs.take j) = clm fs := by rw [List.take_of_length_le (by have := HLN.out; omega)]
      rw [hcl] at HR
      clear hcl
      have HNO : Hid (∀ a ∈ (clm fs).map (·.1), a ∉ othL 2) := Lib.hid (fun a ha => by obtain ⟨f, hf, e⟩ := clm_names fs a ha; rw [← e]; exact (HIN.out f hf).2.2.2.2)
      have HBr := Lib.hid (show B ≤ wr.heap.size from Nat.le_trans HNB.out.2 HR.out.2.size)
      have HBC := Lib.hid (HBU.out wr mb (clm fs) HR.out.1 HBr.out (fun p hp => HNO.out _ (List.mem_map_of_mem (f := (·.1)) hp)))
      go_wp2_with fail
      refine HBC.out.mono ?_
      rintro e w2 (⟨gt, T, rfl, hh, ht, ha, hb⟩ | ⟨T6, u6, n6, rfl, hm6, ht6, hb⟩)
      · have H2 := Lib.hid (And.intro hh (And.intro ht (And.intro ha hb)))
        have htn := tok_names ht
        have hlen : T.length ≤ 100000 := by
          have h1 : (T.map (·.1)).length ≤ ((clm fs).map (·.1)).length := sub_len hh.nd (fun a ha => by obtain ⟨p, hp, e⟩ := List.mem_map.1 ha; rw [← e]; exact htn p hp)
          rw [List.length_map, List.length_map] at h1
          have h2 := clm_len fs
          have h3 := HLN.out
          have h4 := HNB.out.1
          omega
        have HTC := Lib.hid (HTO.out w2 B gt T hh hlen (fun p hp => HNO.out _ (htn p hp)))
        clear hh ht ha hb htn hlen HBC
        go_wp2_with fail
        refine HTC.out.mono ?_
        rintro e w3 ⟨A3, n3, c3, gs, rfl, hn3, hfo, hpm, hsrt, hb3⟩
        have H3 := Lib.hid (And.intro hn3 (And.intro hfo (And.intro hpm (And.intro hsrt hb3))))
        clear hn3 hfo hpm hsrt hb3 HTC
        go_wp2
        exact bodyPost_ret (v := .tuple #[.slice A3 n3 c3, .bool true]) (by kernel_rfl) rfl (.inl ⟨A3, n3, c3, gs, T, rfl, H3.out.1, H3.out.2.1.base (Nat.le_trans HBr.out H2.out.2.2.2.size), H3.out.2.2.1, H3.out.2.2.2.1, H2.out.1.nd, H2.out.2.1, H2.out.2.2.1, (HR.out.2.trans H2.out.2.2.2).trans (H3.out.2.2.2.2.mono (Nat.le_trans HBr.out H2.out.2.2.2.size))⟩)
      · have H6 := Lib.hid (And.intro hm6 (And.intro ht6 hb))
        clear hm6 ht6 hb HBC
        go_wp2
        exact bodyPost_ret (v := .tuple #[.slice none 0 0, .bool false]) (by kernel_rfl) rfl (.inr ⟨n6, rfl, H6.out.1, H6.out.2.1, HR.out.2.trans H6.out.2.2⟩)
set_option maxHeartbeats 1000000 in
theorem Built_calls {w : World} {A : Option Addr} {n c : Nat} {fs : List Cl.Fd} (hl : FL w A n fs) (hin : ∀ f ∈ fs, FdIn 2 f) (hn : n ≤ 100000) :
    Calls Tryz.prog 39 #[.slice A n c] w (BuiltP w.heap.size (clm fs) w) := by
  have HN := Lib.hid (NewBuilder_calls w)
  have HB := Lib.hid (fun (w1 : World) (g : Nat) (h : Bld w1 w.heap.size g none []) (hb : Below w.heap.size w w1) => built_calls (c := c) h hl hb (Nat.le_refl _) hin hn hb.size)
  clear hl hin hn
  go_enter Tryz.func39, Tryz.ntmps39
  go_wp2_with fail
  refine HN.out.mono ?_
  rintro e w1 ⟨g, rfl, hh, hb⟩
  have HB1 := Lib.hid (And.intro (HB.out w1 g hh hb) hb)
  clear hh hb HN HB
  go_wp2_with fail
  refine HB1.out.1.mono ?_
  rintro e w2 (⟨A3, n3, c3, gs, T, rfl, h⟩ | ⟨n6, rfl, h⟩)
  · have H := Lib.hid h
    clear h
    go_wp2
    obtain ⟨h1, h2, h3, h4, h5, h6, h7, h8⟩ := H.out
    exact bodyPost_ret (v := .tuple #[.slice A3 n3 c3, .bool true]) (by kernel_rfl) rfl (.inl ⟨A3, n3, c3, gs, T, rfl, h1, h2, h3, h4, h5, h6, h7, HB1.out.2.trans h8⟩)
  · have H := Lib.hid h
    clear h
    go_wp2
    obtain ⟨h1, h2, h3⟩ := H.out
    exact bodyPost_ret (v := .tuple #[.slice none 0 0, .bool false]) (by kernel_rfl) rfl (.inr ⟨n6, rfl, h1, h2, HB1.out.2.trans h3⟩)
end Go.Proofs.YtapjbdigpleekaaGreat.Mp
