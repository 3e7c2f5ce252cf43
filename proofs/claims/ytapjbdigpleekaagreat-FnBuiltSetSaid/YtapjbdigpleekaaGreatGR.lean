import Derived.Test.YtapjbdigpleekaaGreatGF
import Derived.Deep.LoopGhost
import Derived.Test.YtapjbdigpleekaaGreatGP
import Derived.Deep.RegionHeld3
import Derived.Deep.DeepCutAuto
import Derived.Test.YtapjbdigpleekaaGreatProg
import Derived.Test.YtapjbdigpleekaaGreatGQ
/- Rows of steps of one's own; mapSets, mapText. The conditions are on what lies in memory. -/
set_option linter.unusedVariables false
set_option linter.unusedSimpArgs false
namespace Go.Proofs.YtapjbdigpleekaaGreat.Mp
open Go.RowKit Go.Proofs.YtapjbdigpleekaaGreat.K Go.Proofs.YtapjbdigpleekaaGreat.Cl
def zMs : Value := .agg #[.int .i64 0, .string ByteArray.empty, .int .i64 0, .string ByteArray.empty, .bool false, .int .i32 0, .slice none 0 0]
theorem info_ms : (Tryz.prog.info? 52).map (fun i => (i.zero, i.size, i.bytes)) = some (some zMs, 7, 80) := by kernel_rfl
theorem info_ms4 : ∃ i0, Tryz.prog.info? 52 = some i0 ∧ i0.zero = some zMs ∧ i0.size = 7 ∧ i0.bytes = 80 := by
  obtain ⟨i0, hi, hz0, hz1, hz2⟩ := info_parts info_ms
  exact ⟨i0, hi, hz0, hz1, hz2⟩
theorem mcs_one (s : Ms) : ∀ u ∈ mc s, u.oneCell' = true := by
  intro u hu
  simp only [mc, fc, List.mem_cons, List.not_mem_nil, or_false] at hu
  rcases hu with rfl | rfl | rfl | rfl | rfl | rfl | rfl <;> rfl
/-- A row of steps of one's own. -/
def MO (w : World) (B : Nat) (u : Value) (ss : List Ms) : Prop := w.ownsRow B 52 7 u ss.length (mvs ss) ∧ ∀ s ∈ ss, SL w s.f.A s.f.n s.f.l
theorem MO.form {w : World} {B : Nat} {u : Value} {ss : List Ms} (h : MO w B u ss) : ∃ A c, u = .slice A ss.length c := by
  obtain ⟨A, c, e, _⟩ := own_form h.1
  exact ⟨A, c, e⟩
theorem MO.below {w w' : World} {B : Nat} {u : Value} {ss : List Ms} (h : MO w B u ss) (hb : Below w.heap.size w w') : MO w' B u ss :=
  ⟨own_below h.1 hb, fun s hs => (h.2 s hs).below hb (Nat.le_refl _)⟩
theorem MO.ml {w : World} {B n c : Nat} {A : Option Addr} {ss : List Ms} (h : MO w B (.slice A n c) ss) (hn : n = ss.length) : ML w A n ss := by
  subst hn
  exact ⟨Reads.of_own h.1, h.2⟩
/-- One step more at the end of a row of one's own. The lists of the steps lie below B. -/
theorem own_appM {ops : Array Oper} {rest : List Oper} {o : Oper} {a : Act} {Q : Exit → Act → World → Prop} {B : Nat} {w : World} {n c : Nat} {A : Option Addr} {ss : List Ms} {s : Ms}
    (h : w.ownsRow B 52 7 (.slice A n c) ss.length (mvs ss)) (hB : B ≤ w.heap.size) (hnl : n = ss.length) (hn : n < 1000000) (hgd : o.guard = none) (s1 s2 : Operand)
    (ho : o.op = .call { callee := .builtin .append, args := #[s1, s2], argTypes := #[49, 49] }) (hs : a.eval s1 = .slice A n c) (he : a.eval s2 = .slice (some ⟨w.heap.size, 0, none⟩) 1 1)
    (hq : ∀ A' c' w8, w8.ownsRow B 52 7 (.slice A' (n + 1) c') (ss ++ [s]).length (mvs (ss ++ [s])) → w.grownBy w8 (Value.slice A n c).ownBlock → Below B w w8 → wpList Tryz.prog ops Q rest (a.put o.dst (.slice A' (n + 1) c')) w8) :
    wpList Tryz.prog ops Q (o :: rest) a (w.alloc (.cells #[.int .i64 s.kd, .string s.f.name, .int .i64 s.f.k, .string s.f.t, .bool s.f.b, .int .i32 s.f.z, .slice s.f.A s.f.n s.f.c] 52)) := by
  obtain ⟨i0, HI⟩ := info_ms4
  subst hnl
  have hsz' : B ≤ (w.alloc (.cells #[.int .i64 s.kd, .string s.f.name, .int .i64 s.f.k, .string s.f.t, .bool s.f.b, .int .i32 s.f.z, .slice s.f.A s.f.n s.f.c] 52)).heap.size := by simp only [World.size_alloc]; omega
  have h1' := World.ownsRow.alloc h (.cells #[.int .i64 s.kd, .string s.f.name, .int .i64 s.f.k, .string s.f.t, .bool s.f.b, .int .i32 s.f.z, .slice s.f.A s.f.n s.f.c] 52)
  refine wpList_append_any _ hgd s1 s2 49 ho B 52 i0 zMs 7 80 Tryz.underlying49 HI.1 HI.2.1 HI.2.2.1 HI.2.2.2 rfl (by decide) _ ss.length (mvs ss) hs h1' (some ⟨w.heap.size, 0, none⟩) 1 1 (mc s) he (reads_lit w 7 1 (mc s) #[.int .i64 s.kd, .string s.f.name, .int .i64 s.f.k, .string s.f.t, .bool s.f.b, .int .i32 s.f.z, .slice s.f.A s.f.n s.f.c] rfl rfl _) (mcs_one s) (by unfold maxLen; omega) (by omega) hsz' ?_
  intro v' w8 hown hg _
  obtain ⟨A', c', rfl, _, _⟩ := own_form hown
  have hg8 : w.grownBy w8 (Value.slice A ss.length c).ownBlock := grown_trans (World.grownBy_alloc w _ _) hg
  refine hq A' c' w8 ?_ hg8 ((Below.refl B w).grown hg8 hB (own_block_ge h))
  rw [mvs_app, List.length_append, List.length_singleton]
  simpa [mvs] using hown
/-- Steps of one kind. -/
def setsM (kd : Int) (fs : List Cl.Fd) : List Ms := fs.map (fun f => ⟨kd, f⟩)
def SetsP (w : World) (fs : List Cl.Fd) (e : Ending) (w' : World) : Prop := ∃ A n c, e = .returned (.slice A n c) ∧ n = fs.length ∧ w'.ownsRow w.heap.size 52 7 (.slice A n c) (setsM 0 fs).length (mvs (setsM 0 fs)) ∧ Below w.heap.size w w'
theorem sets_take (kd : Int) (fs : List Cl.Fd) (j : Nat) (hj : j < fs.length) : setsM kd (fs.take (j + 1)) = setsM kd (fs.take j) ++ [⟨kd, fs[j]⟩] := by
  unfold setsM
  rw [List.take_succ_eq_append_getElem hj, List.map_append, List.map_singleton]
theorem sets_len (kd : Int) (fs : List Cl.Fd) : (setsM kd fs).length = fs.length := by simp [setsM]
set_option maxRecDepth 100000 in
set_option maxHeartbeats 2000000 in
theorem mapSets_calls (w : World) (A : Option Addr) (n c : Nat) (fs : List Cl.Fd) (h : FL w A n fs) (hn : n ≤ 100000) :
    Calls Tryz.prog 29 #[.slice A n c] w (SetsP w fs) := by
  have HF := Lib.hid h
  have HLN := Lib.hid h.len
  have HR0 : Hid (w.ownsRow w.heap.size 52 7 (.slice none 0 0) (setsM 0 (fs.take 0)).length (mvs (setsM 0 (fs.take 0))) ∧ Below w.heap.size w w) := Lib.hid ⟨World.ownsRow_nil _ _ _ _, Below.refl _ _⟩
  clear h
  go_enter Tryz.func29, Tryz.ntmps29
  go_wp2
  go_loopg [3, 8] n (fun q v3 v8 wr => ∃ (j : Nat) (A' : Option Addr) (c' : Nat), q + j = n ∧ v8 = .int .i64 (j : Nat) ∧ v3 = .slice A' j c' ∧ Hid (wr.ownsRow w.heap.size 52 7 (.slice A' j c') (setsM 0 (fs.take j)).length (mvs (setsM 0 (fs.take j))) ∧ Below w.heap.size w wr))
  case atStart => exact ⟨0, none, 0, rfl, rfl, rfl, HR0⟩
  case round =>
    clear HR0
    obtain ⟨j, A', c', hqj, rfl, rfl, HR⟩ := hrel
    by_cases hj : j < n
    · have hjl : j < fs.length := by have := HLN.out; omega
      have hji : (j : Int) < (n : Int) := by omega
      obtain ⟨ad, rfl, y0, y1, y2, y3, y4, y5, hsl⟩ := (HF.out.below HR.out.2 (Nat.le_refl _)).at_ hjl
      have HST := Lib.hid (sets_take 0 fs j hjl)
      have HSL : Hid (j = (setsM 0 (fs.take j)).length) := Lib.hid (by rw [sets_len, List.length_take]; omega)
      obtain ⟨f, hf⟩ : ∃ f, f = fs[j] := ⟨_, rfl⟩
      rw [← hf] at y0 y1 y2 y3 y4 y5 HST
      obtain ⟨wB, hwB⟩ : ∃ wB, wB = wr.alloc (.cells #[.string f.name, .int .i64 f.k, .string f.t, .bool f.b, .int .i32 f.z, .slice f.A f.n f.c] 45) := ⟨_, rfl⟩
      have HBF : Hid (Below wr.heap.size wr wB ∧ Blk wB wr.heap.size 45 #[.string f.name, .int .i64 f.k, .string f.t, .bool f.b, .int .i32 f.z, .slice f.A f.n f.c]) := Lib.hid (by rw [hwB]; exact ⟨below_alloc' (Below.refl wr.heap.size wr) _, Blk.new wr _ _⟩)
      have HOF := Lib.hid (own_below HR.out.1 HBF.out.1)
      obtain ⟨ss, hss⟩ : ∃ ss, ss = setsM 0 (fs.take j) := ⟨_, rfl⟩
      rw [← hss] at HOF HSL HST
      clear hf hsl hss
      go_upto_region 5 with (fail)
      rw [← hwB]
      clear hwB y0 y1 y2 y3 y4 y5
      obtain ⟨d0, d1, d2, d3, d4, d5⟩ := six_cells HBF.out.2
      go_wp2_with (at_builtin; refine own_appM (s := ⟨0, f⟩) HOF.out (Nat.le_trans HR.out.2.size HBF.out.1.size) HSL.out (by omega) rfl _ _ rfl rfl rfl ?_; intro A8 c8 w8 hown hg8 hb8; have H8 := Lib.hid (And.intro hown hb8); clear hown hg8 hb8)
      go_roundg (n - (j + 1))
      case measure => omega
      case rel => exact ⟨j + 1, A8, c8, by omega, by go_num, rfl, by rw [HST.out]; exact ⟨H8.out.1, (HR.out.2.trans (HBF.out.1.mono HR.out.2.size)).trans H8.out.2⟩⟩
    · have hji : ¬ (j : Int) < (n : Int) := by omega
      obtain rfl : j = n := by omega
      go_wp2
      go_ret
      have ho := HR.out.1
      rw [List.take_of_length_le (by have := HLN.out; omega)] at ho
      exact ⟨_, _, _, rfl, HLN.out, ho, HR.out.2⟩
end Go.Proofs.YtapjbdigpleekaaGreat.Mp

/- slices.Equal, Index, Contains over truth values; spec.MapSame. The conditions are on what lies in memory. -/
set_option linter.unusedVariables false
set_option linter.unusedSimpArgs false
namespace Go.Proofs.YtapjbdigpleekaaGreat.Mp
open Go.RowKit Go.Proofs.YtapjbdigpleekaaGreat.K Go.Proofs.YtapjbdigpleekaaGreat.Cl
/-- A slice of truth values. -/
def BL (w : World) (A : Option Addr) (n : Nat) (bs : List Bool) : Prop := Reads w 1 A n (bs.map Value.bool)
theorem BL.len {w : World} {A : Option Addr} {n : Nat} {bs : List Bool} (h : BL w A n bs) : n = bs.length := by have := h.1; simp at this; omega
theorem BL.below {w w' : World} {A : Option Addr} {n : Nat} {bs : List Bool} {B : Nat} (h : BL w A n bs) (hb : Below B w w') (hB : w.heap.size ≤ B) : BL w' A n bs := Reads.below h hb hB
theorem BL.at_ {w : World} {A : Option Addr} {n k : Nat} {l : List Bool} (h : BL w A n l) (hk : k < l.length) : ∃ ad, A = some ad ∧ w.cell? (ad.add k) = some (.bool l[k]) := by
  have hn := h.len
  obtain ⟨ad, u, rfl, hu, hc⟩ := Reads.at_ h (show k < n by omega)
  refine ⟨ad, rfl, ?_⟩
  rw [hc, ← hu]
  simp [hk]
theorem BO.bl {w : World} {B n c : Nat} {A : Option Addr} {bs : List Bool} (h : BO w B (.slice A n c) bs) (hn : n = bs.length) : BL w A n bs := by
  subst hn
  exact Reads.of_own h.1
set_option maxHeartbeats 1000000 in
theorem BEqual_calls (w : World) (A B : Option Addr) (l m : List Bool) (n c k d : Nat) (h : BL w A n l) (h' : BL w B k m) (hn : n ≤ 1000000) (r : Bool) (hr : decide (l = m) = r) :
    Calls Tryz.prog 34 #[.slice A n c, .slice B k d] w (BoolB w r) := by
  have HLN := Lib.hid (And.intro h.len h'.len)
  have HR := Lib.hid hr
  clear hr
  by_cases hnk : n = k
  · subst hnk
    go_enter Tryz.func34, Tryz.ntmps34
    go_wp2
    go_loopg [13] n (fun q u13 wr => ∃ j : Nat, q + j = n ∧ u13 = .int .i64 j ∧ Hid (l.take j = m.take j) ∧ Hid (Below w.heap.size w wr))
    case atStart => exact ⟨0, rfl, rfl, by simp [Hid], Below.refl _ _⟩
    case round =>
      obtain ⟨j, hqj, rfl, hE, HB⟩ := hrel
      by_cases hj : j < n
      · have hjl : j < l.length := by have := HLN.out.1; omega
        have hjm : j < m.length := by have := HLN.out.2; omega
        obtain ⟨ad, rfl, hc1⟩ := (h.below HB.out (Nat.le_refl _)).at_ hjl
        obtain ⟨bd, rfl, hc2⟩ := (h'.below HB.out (Nat.le_refl _)).at_ hjm
        obtain ⟨x, hx⟩ : ∃ x, x = l[j] := ⟨_, rfl⟩
        obtain ⟨y, hy⟩ : ∃ y, y = m[j] := ⟨_, rfl⟩
        rw [← hx] at hc1
        rw [← hy] at hc2
        have HX := Lib.hid hx
        have HY := Lib.hid hy
        clear hx hy
        by_cases hxy : x = y
        · subst hxy
          have HXY := Lib.hid (HX.out.symm.trans HY.out)
          clear HX HY
          have hbb : (x != x) = false := by simp
          go_wp2_with (go_quiet (fail))
          go_roundg (n - (j + 1))
          case measure => omega
          case rel =>
            refine ⟨j + 1, by omega, by go_num, ?_, Go.Proofs.YtapjbdigpleekaaGreat.K.below_drewN HB.out _⟩
            show _ = _
            rw [List.take_succ_eq_append_getElem hjl, List.take_succ_eq_append_getElem hjm, hE.out, HXY.out]
        · have HF : Hid (r = false) := Lib.hid (by
            rw [← HR.out]
            refine decide_eq_false fun e => hxy ?_
            subst e
            rw [HX.out, HY.out])
          clear HX HY
          have hxb : (x == y) = false := by simpa using hxy
          have hxc : (x != y) = true := by simpa using hxy
          go_wp2_with (go_quiet (fail))
          go_ret
          exact ⟨ret_bool HF.out.symm, Go.Proofs.YtapjbdigpleekaaGreat.K.below_drewN HB.out _⟩
      · obtain rfl : j = n := by omega
        have HT : Hid (r = true) := Lib.hid (by
          rw [← HR.out]
          refine decide_eq_true ?_
          have := hE.out
          rwa [List.take_of_length_le (by have := HLN.out.1; omega), List.take_of_length_le (by have := HLN.out.2; omega)] at this)
        go_wp2
        go_ret
        exact ⟨ret_bool HT.out.symm, HB.out⟩
  · have HF : Hid (r = false) := Lib.hid (by
      rw [← HR.out]
      refine decide_eq_false fun e => hnk ?_
      have := HLN.out
      subst e
      omega)
    have hb : ((n : Int) != (k : Int)) = true := by rw [bne_iff_ne]; omega
    have hnki : ¬ (n : Int) = (k : Int) := by omega
    go_enter Tryz.func34, Tryz.ntmps34
    go_wp2
    go_ret
    exact ⟨ret_bool HF.out.symm, Below.refl _ _⟩
/-- The first that is v. -/
def ixB (v : Bool) (l : List Bool) : Int := match l.findIdx? (· == v) with | some i => i | none => -1
theorem ixB_at {v : Bool} {l : List Bool} {j : Nat} (hj : j < l.length) (h : l[j] = v) (hb : ∀ y ∈ l.take j, y ≠ v) : ixB v l = j := by
  unfold ixB
  rw [List.findIdx?_eq_some_iff_getElem.2 ⟨hj, by simp [h], fun i hi => by
    have : l[i]'(by omega) ∈ l.take j := by
      rw [List.mem_take_iff_getElem]
      exact ⟨i, by omega, rfl⟩
    simpa using hb _ this⟩]
theorem ixB_no {v : Bool} {l : List Bool} (h : ∀ y ∈ l, y ≠ v) : ixB v l = -1 := by
  unfold ixB
  rw [List.findIdx?_eq_none_iff.2 (fun y hy => by simpa using h y hy)]
theorem ixB_ge (v : Bool) (l : List Bool) : decide (0 ≤ ixB v l) = decide (v ∈ l) := by
  unfold ixB
  cases h : l.findIdx? (· == v) with
  | none =>
    have := List.findIdx?_eq_none_iff.1 h
    rw [decide_eq_false (by show ¬ (0 : Int) ≤ -1; omega), decide_eq_false (fun hv => by have := this v hv; simp at this)]
  | some i =>
    obtain ⟨hi, hp, _⟩ := List.findIdx?_eq_some_iff_getElem.1 h
    rw [decide_eq_true (by show (0 : Int) ≤ (i : Int); omega), decide_eq_true]
    have : l[i] = v := by simpa using hp
    rw [← this]
    exact List.getElem_mem hi
set_option maxRecDepth 100000 in
set_option maxHeartbeats 1000000 in
theorem BIndex_calls {w : World} {A : Option Addr} {n c : Nat} {l : List Bool} (h : BL w A n l) (hn : n ≤ 1000000) (v : Bool) :
    Calls Tryz.prog 72 #[.slice A n c, .bool v] w fun e w' => e = .returned (.int .i64 (ixB v l)) ∧ Below w.heap.size w w' := by
  have HLN := Lib.hid h.len
  have HB0 := Lib.hid (Below.refl w.heap.size w)
  go_enter Tryz.func72, Tryz.ntmps72
  go_wp2
  go_loopg [8] n (fun q u wr => ∃ j : Nat, q + j = n ∧ u = .int .i64 j ∧ Hid (Below w.heap.size w wr) ∧ Hid (∀ y ∈ l.take j, y ≠ v))
  case atStart => exact ⟨0, rfl, rfl, HB0, Lib.hid (by simp)⟩
  case round =>
    obtain ⟨j, hqj, rfl, HB, HP⟩ := hrel
    by_cases hj : j < n
    · have hjl : j < l.length := by have := HLN.out; omega
      obtain ⟨ad, hA, hc1⟩ := (h.below HB.out (Nat.le_refl _)).at_ hjl
      subst hA
      obtain ⟨y, hy⟩ : ∃ y, y = l[j] := ⟨_, rfl⟩
      rw [← hy] at hc1
      have HY := Lib.hid hy
      clear hy h
      by_cases hb : v = y
      · have hvb : (v == y) = true := by simpa using hb
        have HV := Lib.hid hb
        clear hb
        go_wp2
        go_ret
        exact ⟨(by rw [ixB_at hjl (by rw [← HY.out]; exact HV.out.symm) HP.out]; rfl), HB.out⟩
      · have hvb : (v == y) = false := by simpa using hb
        have HV := Lib.hid hb
        clear hb
        go_wp2
        go_roundg (n - (j + 1))
        case measure => omega
        case rel =>
          refine ⟨j + 1, by omega, by go_num, HB, Lib.hid ?_⟩
          intro z hz
          rw [List.take_succ_eq_append_getElem hjl] at hz
          rcases List.mem_append.1 hz with hz | hz
          · exact HP.out z hz
          · rw [List.mem_singleton.1 hz, ← HY.out]
            exact fun e => HV.out e.symm
    · have hlt : ¬ (j : Int) < (n : Int) := by omega
      go_wp2
      go_ret
      have hall : ∀ y ∈ l, y ≠ v := fun y hy => HP.out y (by rw [List.take_of_length_le (by have := HLN.out; omega)]; exact hy)
      exact ⟨(by rw [ixB_no hall]; rfl), HB.out⟩
theorem BContains_calls {w : World} {A : Option Addr} {n c : Nat} {l : List Bool} (h : BL w A n l) (hn : n ≤ 1000000) (v : Bool) :
    Calls Tryz.prog 31 #[.slice A n c, .bool v] w (BoolB w (decide (v ∈ l))) := by
  have HI := Lib.hid (BIndex_calls (c := c) h hn v)
  obtain ⟨i, hi⟩ : ∃ i, i = ixB v l := ⟨_, rfl⟩
  rw [← ixB_ge, ← hi]
  rw [← hi] at HI
  clear h hi
  go_enter Tryz.func31, Tryz.ntmps31
  go_wp2_with fail
  refine HI.out.mono ?_
  rintro e w1 ⟨rfl, hb⟩
  have HB := Lib.hid hb
  clear hb
  go_wp2
  go_ret
  exact ⟨rfl, HB.out⟩
end Go.Proofs.YtapjbdigpleekaaGreat.Mp

/- spec.MapSame: two lists of fields tell the same; the conditions are on what lies in memory, and the four kinds. -/
set_option linter.unusedVariables false
set_option linter.unusedSimpArgs false
namespace Go.Proofs.YtapjbdigpleekaaGreat.Mp
open Go.RowKit Go.Proofs.YtapjbdigpleekaaGreat.K Go.Proofs.YtapjbdigpleekaaGreat.Cl
abbrev f6 (f : Cl.Fd) : Array Value := #[.string f.name, .int .i64 f.k, .string f.t, .bool f.b, .int .i32 f.z, .slice f.A f.n f.c]
abbrev p5 (f : Cl.Fd) : Array Value := #[.int .i64 f.k, .string f.t, .bool f.b, .int .i32 f.z, .slice f.A f.n f.c]
theorem five_cells {w : World} {g : Nat} {T : TypeId} {a b c d e : Value} (h : Blk w g T #[a, b, c, d, e]) : w.cell? ⟨g, 0, none⟩ = some a ∧ w.cell? ⟨g, 1, none⟩ = some b ∧ w.cell? ⟨g, 2, none⟩ = some c ∧ w.cell? ⟨g, 3, none⟩ = some d ∧ w.cell? ⟨g, 4, none⟩ = some e :=
  ⟨by rw [h.cell]; rfl, by rw [h.cell]; rfl, by rw [h.cell]; rfl, by rw [h.cell]; rfl, by rw [h.cell]; rfl⟩
theorem pv_eq {f g : Cl.Fd} (h1 : 0 ≤ f.k) (h2 : f.k ≤ 3) (h3 : 0 ≤ g.k) (h4 : g.k ≤ 3) : fld f = fld g ↔ f.name = g.name ∧ f.k = g.k ∧ (f.k = 0 → f.t = g.t) ∧ (f.k = 1 → f.b = g.b) ∧ (f.k = 2 → f.z = g.z) ∧ (f.k = 3 → f.l = g.l) := by
  obtain ⟨fn, fk, ft, fb, fz, fA, fnn, fcc, flst⟩ := f
  obtain ⟨gn, gk, gt, gb, gz, gA, gnn, gcc, glst⟩ := g
  simp only at *
  unfold fld
  simp only [Prod.mk.injEq]
  rcases (by omega : fk = 0 ∨ fk = 1 ∨ fk = 2 ∨ fk = 3) with rfl | rfl | rfl | rfl <;> rcases (by omega : gk = 0 ∨ gk = 1 ∨ gk = 2 ∨ gk = 3) with rfl | rfl | rfl | rfl <;> simp [pvOf]
theorem two_new (w : World) (T : TypeId) (x y : Array Value) : Blk ((w.alloc (.cells x T)).alloc (.cells y T)).drew w.heap.size T x ∧ Blk ((w.alloc (.cells x T)).alloc (.cells y T)).drew (w.heap.size + 1) T y ∧ Below w.heap.size w ((w.alloc (.cells x T)).alloc (.cells y T)).drew := by
  have h := Blk.new (w.alloc (.cells x T)) T y
  rw [show (w.alloc (.cells x T)).heap.size = w.heap.size + 1 from by simp] at h
  exact ⟨(Blk.new w T x).alloc _, h, K.below_drewN (below_alloc' (below_alloc' (Below.refl _ _) _) _) 1⟩
set_option maxRecDepth 100000 in
set_option maxHeartbeats 8000000 in
theorem same1_calls (w : World) (f g : Cl.Fd) (hf : 0 ≤ f.k ∧ f.k ≤ 3) (hg : 0 ≤ g.k ∧ g.k ≤ 3) (hl : SL w f.A f.n f.l) (hm : SL w g.A g.n g.l) (hn1 : f.n ≤ 100000) (hn2 : g.n ≤ 100000) :
    Calls Tryz.prog 59 #[fdV f, fdV g] w (TellP w (fld f = fld g)) := by
  have HPE := Lib.hid (pv_eq hf.1 hf.2 hg.1 hg.2)
  obtain ⟨wA, hwA⟩ : ∃ wA, wA = (w.alloc (.cells (f6 f) 45)).alloc (.cells (f6 g) 45) := ⟨_, rfl⟩
  have HA : Hid (Below w.heap.size w wA ∧ Blk wA w.heap.size 45 (f6 f) ∧ Blk wA (w.heap.size + 1) 45 (f6 g)) := Lib.hid (by
    rw [hwA]
    refine ⟨below_alloc' (below_alloc' (Below.refl _ _) _) _, (Blk.new w _ _).alloc _, ?_⟩
    have h := Blk.new (w.alloc (.cells (f6 f) 45)) 45 (f6 g)
    rwa [show (w.alloc (.cells (f6 f) 45)).heap.size = w.heap.size + 1 from by simp] at h)
  have HL := Lib.hid (And.intro hl hm)
  have HN := Lib.hid (And.intro hf hg)
  have HN2 := Lib.hid (And.intro hn1 hn2)
  clear hl hm hf hg hn1 hn2
  go_enter Tryz.func59, Tryz.ntmps59
  go_upto_region 1 with (fail)
  rw [← hwA]
  clear hwA
  have HD : Hid (Blk wA.drew w.heap.size 45 (f6 f) ∧ Blk wA.drew (w.heap.size + 1) 45 (f6 g)) := HA.out.2
  obtain ⟨x0, x1, x2, x3, x4, x5⟩ := six_cells HD.out.1
  obtain ⟨z0, z1, z2, z3, z4, z5⟩ := six_cells HD.out.2
  obtain ⟨X0, X1, X2, X3, X4, X5⟩ := six_cells HA.out.2.1
  obtain ⟨Z0, Z1, Z2, Z3, Z4, Z5⟩ := six_cells HA.out.2.2
  have e1 := World.new_ne wA _ X1
  have g1 := World.new_ne wA _ Z1
  have e2 := World.new_ne wA _ X2
  have g2 := World.new_ne wA _ Z2
  have e3 := World.new_ne wA _ X3
  have g3 := World.new_ne wA _ Z3
  have e4 := World.new_ne wA _ X4
  have g4 := World.new_ne wA _ Z4
  have e5 := World.new_ne wA _ X5
  have g5 := World.new_ne wA _ Z5
  go_cut [5, 6] (fun u v wx => ∃ b1 b2 : Nat, u = .pointer (some ⟨b1, 0, none⟩) ∧ v = .pointer (some ⟨b2, 0, none⟩) ∧ Hid (Blk wx b1 43 (p5 f) ∧ Blk wx b2 43 (p5 g) ∧ Below wA.heap.size wA wx))
  case first =>
    go_region_held3 (fun W => W.cell? ⟨w.heap.size, 1, none⟩ = some (.int .i64 f.k) ∧ W.cell? ⟨w.heap.size, 2, none⟩ = some (.string f.t) ∧ W.cell? ⟨w.heap.size, 3, none⟩ = some (.bool f.b) ∧ W.cell? ⟨w.heap.size, 4, none⟩ = some (.int .i32 f.z) ∧ W.cell? ⟨w.heap.size, 5, none⟩ = some (.slice f.A f.n f.c) ∧ W.cell? ⟨w.heap.size + 1, 1, none⟩ = some (.int .i64 g.k) ∧ W.cell? ⟨w.heap.size + 1, 2, none⟩ = some (.string g.t) ∧ W.cell? ⟨w.heap.size + 1, 3, none⟩ = some (.bool g.b) ∧ W.cell? ⟨w.heap.size + 1, 4, none⟩ = some (.int .i32 g.z) ∧ W.cell? ⟨w.heap.size + 1, 5, none⟩ = some (.slice g.A g.n g.c)) (go_keep) (fail)
    all_goals (go_wp2_with fail; go_meet)
    all_goals (first
      | exact ⟨_, _, rfl, rfl, (two_new wA _ _ _).1, (two_new wA _ _ _).2.1, (two_new wA _ _ _).2.2⟩
      | exact ⟨_, _, rfl, rfl, (two_new wA _ _ _).2.1, (two_new wA _ _ _).1, (two_new wA _ _ _).2.2⟩)
  case rest =>
    obtain ⟨b1, b2, rfl, rfl, HC⟩ := hcut
    clear e1 e2 e3 e4 e5 g1 g2 g3 g4 g5 X0 X1 X2 X3 X4 X5 Z0 Z1 Z2 Z3 Z4 Z5 x0 x1 x2 x3 x4 x5 z0 z1 z2 z3 z4 z5
    have m0 : wc.cell? ⟨w.heap.size, 0, none⟩ = some (.string f.name) := ((HA.out.2.1.below HC.out.2.2 HA.out.2.1.lt).cell 0).trans rfl
    have m1 : wc.cell? ⟨w.heap.size + 1, 0, none⟩ = some (.string g.name) := ((HA.out.2.2.below HC.out.2.2 HA.out.2.2.lt).cell 0).trans rfl
    obtain ⟨p0, p1, p2, p3, p4⟩ := five_cells HC.out.1
    obtain ⟨q0, q1, q2, q3, q4⟩ := five_cells HC.out.2.1
    have HB := Lib.hid (K.below_then HA.out.1 (HC.out.2.2.mono (by omega)))
    have hs1 := HL.out.1.below (HA.out.1.trans (HC.out.2.2.mono HA.out.1.size)) (Nat.le_refl _)
    have hs2 := HL.out.2.below (HA.out.1.trans (HC.out.2.2.mono HA.out.1.size)) (Nat.le_refl _)
    obtain ⟨fn, fk, ft, fb, fz, fA, fnn, fcc, flst⟩ := f
    obtain ⟨gn, gk, gt, gb, gz, gA, gnn, gcc, glst⟩ := g
    simp only at m0 m1 p0 p1 p2 p3 p4 q0 q1 q2 q3 q4 hs1 hs2 HPE HN HN2
    have HS := Lib.hid (fun r hr => SEqual_calls wc fA gA flst glst fnn fcc gnn gcc hs1 hs2 HN2.out.1 HN2.out.2 r hr)
    clear hs1 hs2
    by_cases hn : fn = gn
    · have nb : (fn.toList == gn.toList) = true := by rw [str_dec]; simp [hn]
      by_cases hk : fk = gk
      · have kb : (fk == gk) = true := by simp [hk]
        have HE := Lib.hid (And.intro hn hk)
        rcases (by have := HN.out.1; omega : fk = 0 ∨ fk = 1 ∨ fk = 2 ∨ fk = 3) with h0 | h0 | h0 | h0
        · subst h0
          obtain ⟨r, hr⟩ : ∃ r, r = decide (ft = gt) := ⟨_, rfl⟩
          have tb : (ft.toList == gt.toList) = r := by rw [str_dec, hr]
          have HR := Lib.hid hr
          clear hr hn hk
          cases r with
          | true =>
            go_wp2
            go_ret
            exact ⟨true, rfl, by have := of_decide_eq_true HR.out.symm; rw [HPE.out]; (refine ⟨fun _ => ⟨HE.out.1, HE.out.2, ?_, ?_, ?_, ?_⟩, fun _ => rfl⟩ <;> intro h <;> first | exact this | exact absurd h (by decide)), HB.out⟩
          | false =>
            go_wp2
            go_ret
            exact ⟨false, rfl, by have := of_decide_eq_false HR.out.symm; rw [HPE.out]; simp [this], HB.out⟩
        · subst h0
          obtain ⟨r, hr⟩ : ∃ r, r = (fb == gb) := ⟨_, rfl⟩
          have tb : (fb == gb) = r := hr.symm
          have HR := Lib.hid hr
          clear hr hn hk
          cases r with
          | true =>
            go_wp2
            go_ret
            exact ⟨true, rfl, by have := eq_of_beq HR.out.symm; rw [HPE.out]; (refine ⟨fun _ => ⟨HE.out.1, HE.out.2, ?_, ?_, ?_, ?_⟩, fun _ => rfl⟩ <;> intro h <;> first | exact this | exact absurd h (by decide)), HB.out⟩
          | false =>
            go_wp2
            go_ret
            exact ⟨false, rfl, by have := ne_of_beq_false HR.out.symm; rw [HPE.out]; simp [this], HB.out⟩
        · subst h0
          obtain ⟨r, hr⟩ : ∃ r, r = (fz == gz) := ⟨_, rfl⟩
          have tb : (fz == gz) = r := hr.symm
          have HR := Lib.hid hr
          clear hr hn hk
          cases r with
          | true =>
            go_wp2
            go_ret
            exact ⟨true, rfl, by have := eq_of_beq HR.out.symm; rw [HPE.out]; (refine ⟨fun _ => ⟨HE.out.1, HE.out.2, ?_, ?_, ?_, ?_⟩, fun _ => rfl⟩ <;> intro h <;> first | exact this | exact absurd h (by decide)), HB.out⟩
          | false =>
            go_wp2
            go_ret
            exact ⟨false, rfl, by have := ne_of_beq_false HR.out.symm; rw [HPE.out]; simp [this], HB.out⟩
        · subst h0
          obtain ⟨r, hr⟩ : ∃ r, r = decide (flst = glst) := ⟨_, rfl⟩
          have HQ := Lib.hid (HS.out r hr.symm)
          have HR := Lib.hid hr
          clear hr hn hk
          go_wp2_with fail
          refine HQ.out.mono ?_
          rintro e w3 ⟨rfl, hb3⟩
          have HB3 := Lib.hid (K.below_then HB.out hb3)
          clear hb3
          cases r with
          | true =>
            go_wp2
            go_ret
            exact ⟨true, rfl, by have := of_decide_eq_true HR.out.symm; rw [HPE.out]; (refine ⟨fun _ => ⟨HE.out.1, HE.out.2, ?_, ?_, ?_, ?_⟩, fun _ => rfl⟩ <;> intro h <;> first | exact this | exact absurd h (by decide)), HB3.out⟩
          | false =>
            go_wp2
            go_ret
            exact ⟨false, rfl, by have := of_decide_eq_false HR.out.symm; rw [HPE.out]; simp [this], HB3.out⟩
      · have kb : (fk == gk) = false := by simpa using hk
        have HE := Lib.hid hk
        clear hn hk
        go_wp2
        go_ret
        exact ⟨false, rfl, by rw [HPE.out]; simp [HE.out], HB.out⟩
    · have nb : (fn.toList == gn.toList) = false := str_ne hn
      have HE := Lib.hid hn
      clear hn
      go_wp2
      go_ret
      exact ⟨false, rfl, by rw [HPE.out]; simp [HE.out], HB.out⟩
/-- Fields in a slice, of the four kinds, short. -/
def FK (f : Cl.Fd) : Prop := 0 ≤ f.k ∧ f.k ≤ 3 ∧ f.n ≤ 100000
set_option maxRecDepth 100000 in
set_option maxHeartbeats 4000000 in
theorem EqualFunc_calls (w : World) (A A2 : Option Addr) (n c n2 c2 : Nat) (fs gs : List Cl.Fd) (h1 : FL w A n fs) (h2 : FL w A2 n2 gs) (k1 : ∀ f ∈ fs, FK f) (k2 : ∀ f ∈ gs, FK f) (hn : n ≤ 1000000) :
    Calls Tryz.prog 58 #[.slice A n c, .slice A2 n2 c2, .func (.func 59) #[] #[]] w (TellP w (fs.map fld = gs.map fld)) := by
  have HLN := Lib.hid (And.intro h1.len h2.len)
  by_cases hnk : n = n2
  · subst hnk
    have HS := Lib.hid (And.intro h1 h2)
    have HK := Lib.hid (And.intro k1 k2)
    have HB0 := Lib.hid (Below.refl w.heap.size w)
    clear h1 h2 k1 k2
    go_enter Tryz.func58, Tryz.ntmps58
    go_wp2
    go_loopg [17] n (fun q u wr => ∃ j : Nat, q + j = n ∧ u = .int .i64 j ∧ Hid (Below w.heap.size w wr) ∧ Hid ((fs.map fld).take j = (gs.map fld).take j))
    case atStart => exact ⟨0, rfl, rfl, HB0, by simp [Hid]⟩
    case round =>
      obtain ⟨j, hqj, rfl, HB, HE⟩ := hrel
      by_cases hj : j < n
      · have hji : (j : Int) < (n : Int) := by omega
        have hjl : j < fs.length := by have := HLN.out.1; omega
        have hjm : j < gs.length := by have := HLN.out.2; omega
        obtain ⟨ad, rfl, x0, x1, x2, x3, x4, x5, hs1⟩ := (HS.out.1.below HB.out (Nat.le_refl _)).at_ hjl
        obtain ⟨bd, rfl, y0, y1, y2, y3, y4, y5, hs2⟩ := (HS.out.2.below HB.out (Nat.le_refl _)).at_ hjm
        have kf := HK.out.1 _ (List.getElem_mem hjl)
        have kg := HK.out.2 _ (List.getElem_mem hjm)
        have HFD : Hid (fld fs[j] = fld gs[j] ↔ (fs.map fld)[j]'(by simpa using hjl) = (gs.map fld)[j]'(by simpa using hjm)) := Lib.hid (by simp)
        obtain ⟨f, hf⟩ : ∃ f, f = fs[j] := ⟨_, rfl⟩
        obtain ⟨g, hg⟩ : ∃ g, g = gs[j] := ⟨_, rfl⟩
        rw [← hf] at x0 x1 x2 x3 x4 x5 hs1 kf HFD
        rw [← hg] at y0 y1 y2 y3 y4 y5 hs2 kg HFD
        have HCL := Lib.hid (fun W (hW : Below wr.heap.size wr W) => same1_calls W f g ⟨kf.1, kf.2.1⟩ ⟨kg.1, kg.2.1⟩ (hs1.below hW (Nat.le_refl _)) (hs2.below hW (Nat.le_refl _)) kf.2.2 kg.2.2)
        have al : ∀ p v, wr.cell? p = some v → ∀ o, (wr.alloc o).cell? p = some v := fun p v h o => by rw [World.cell?_alloc_some wr p _ (by rw [h]; rfl), h]
        have y0a := al _ _ y0
        have y1a := al _ _ y1
        have y2a := al _ _ y2
        have y3a := al _ _ y3
        have y4a := al _ _ y4
        have y5a := al _ _ y5
        clear al hs1 hs2 kf kg hf hg
        go_wp2_with fail
        refine (HCL.out _ (below_alloc' (below_alloc' (Below.refl _ _) _) _)).mono ?_
        rintro e w7 ⟨r, rfl, hr, hb7⟩
        have HB7 := Lib.hid (HB.out.trans (((below_alloc' (below_alloc' (Below.refl wr.heap.size wr) _) _).trans (hb7.mono (by simp only [World.size_alloc]; omega))).mono HB.out.size))
        have HR := Lib.hid hr
        clear hb7 hr
        cases r with
        | true =>
          go_wp2
          go_roundg (n - (j + 1))
          case measure => omega
          case rel =>
            refine ⟨j + 1, by omega, by go_num, HB7, ?_⟩
            show _ = _
            rw [List.take_succ_eq_append_getElem (by simpa using hjl), List.take_succ_eq_append_getElem (by simpa using hjm), HE.out, HFD.out.1 (HR.out.1 (by first | rfl | trivial))]
        | false =>
          go_wp2
          go_ret
          refine ⟨false, rfl, ⟨fun h => by (cases h), fun e => ?_⟩, HB7.out⟩
          have h2 : fld f = fld g := HFD.out.2 (by simp only [e])
          exact HR.out.2 h2
      · have hji : ¬ (j : Int) < (n : Int) := by omega
        go_wp2
        go_ret
        exact ⟨true, rfl, by have := HE.out; rw [List.take_of_length_le (by rw [List.length_map]; have := HLN.out.1; omega), List.take_of_length_le (by rw [List.length_map]; have := HLN.out.2; omega)] at this; simp [this], HB.out⟩
  · have HF : Hid (¬ fs.map fld = gs.map fld) := Lib.hid (fun e => hnk (by have h := congrArg List.length e; rw [List.length_map, List.length_map] at h; have := HLN.out; omega))
    have hb : ((n : Int) != (n2 : Int)) = true := by rw [bne_iff_ne]; omega
    have hnki : ¬ (n : Int) = (n2 : Int) := by omega
    clear h1 h2
    go_enter Tryz.func58, Tryz.ntmps58
    go_wp2
    go_ret
    exact ⟨false, rfl, by simp [HF.out], Below.refl _ _⟩
theorem MapSame_calls (w : World) (A A2 : Option Addr) (n c n2 c2 : Nat) (fs gs : List Cl.Fd) (h1 : FL w A n fs) (h2 : FL w A2 n2 gs) (k1 : ∀ f ∈ fs, FK f) (k2 : ∀ f ∈ gs, FK f) (hn : n ≤ 1000000) :
    Calls Tryz.prog 20 #[.slice A n c, .slice A2 n2 c2] w (TellP w (fs.map fld = gs.map fld)) := by
  have HE := Lib.hid (EqualFunc_calls w A A2 n c n2 c2 fs gs h1 h2 k1 k2 hn)
  clear h1 h2 k1 k2
  go_enter Tryz.func20, Tryz.ntmps20
  go_wp2_with fail
  refine HE.out.mono ?_
  rintro e w1 ⟨r, rfl, hr⟩
  have HR := Lib.hid hr
  clear hr
  go_wp2
  go_ret
  exact ⟨r, rfl, HR.out⟩
end Go.Proofs.YtapjbdigpleekaaGreat.Mp

/- A sorted list without two of one name is told by what is in it: plain law, no program in sight. -/
namespace Go.Proofs.YtapjbdigpleekaaGreat.Mp
section
variable {α : Type} (lt : α → α → Prop)
/-- Each stands before all behind it. -/
def Asc : List α → Prop
  | [] => True
  | x :: l => (∀ y ∈ l, lt x y) ∧ Asc l
theorem asc_unique (irr : ∀ x, ¬ lt x x) (tr : ∀ x y z, lt x y → lt y z → lt x z) : ∀ {a b : List α}, Asc lt a → Asc lt b → (∀ x, x ∈ a ↔ x ∈ b) → a = b
  | [], [], _, _, _ => rfl
  | [], y :: b, _, _, h => by have := (h y).2 (List.mem_cons_self ..); cases this
  | x :: a, [], _, _, h => by have := (h x).1 (List.mem_cons_self ..); cases this
  | x :: a, y :: b, ha, hb, h => by
    have hxy : x = y := by
      rcases List.mem_cons.1 ((h x).1 (List.mem_cons_self ..)) with e | hx
      · exact e
      · rcases List.mem_cons.1 ((h y).2 (List.mem_cons_self ..)) with e | hy
        · exact e.symm
        · exact absurd (tr _ _ _ (ha.1 y hy) (hb.1 x hx)) (irr x)
    subst hxy
    rw [asc_unique irr tr ha.2 hb.2 fun z => ⟨fun hz => by
      rcases List.mem_cons.1 ((h z).1 (List.mem_cons_of_mem _ hz)) with e | hm
      · subst e; exact absurd (ha.1 _ hz) (irr _)
      · exact hm, fun hz => by
      rcases List.mem_cons.1 ((h z).2 (List.mem_cons_of_mem _ hz)) with e | hm
      · subst e; exact absurd (hb.1 _ hz) (irr _)
      · exact hm⟩]
/-- Another one, or in the place of the one of its name. -/
def insA [DecidableRel lt] (x : α) : List α → List α
  | [] => [x]
  | y :: l => if lt x y then x :: y :: l else if lt y x then y :: insA x l else x :: l
theorem mem_insA [DecidableRel lt] (tot : ∀ x y, ¬ lt x y → ¬ lt y x → ∀ z, (lt z x ↔ lt z y) ∧ (lt x z ↔ lt y z)) (x : α) : ∀ (l : List α) (z : α), z ∈ insA lt x l → z = x ∨ z ∈ l
  | [], z, h => by rw [insA] at h; exact Or.inl (List.mem_singleton.1 h)
  | y :: l, z, h => by
    rw [insA] at h
    split at h
    · rcases List.mem_cons.1 h with e | h
      · exact Or.inl e
      · exact Or.inr h
    · split at h
      · rcases List.mem_cons.1 h with e | h
        · exact Or.inr (by rw [e]; exact List.mem_cons_self ..)
        · rcases mem_insA tot x l z h with e | h
          · exact Or.inl e
          · exact Or.inr (List.mem_cons_of_mem _ h)
      · rcases List.mem_cons.1 h with e | h
        · exact Or.inl e
        · exact Or.inr (List.mem_cons_of_mem _ h)
theorem asc_insA [DecidableRel lt] (tr : ∀ x y z, lt x y → lt y z → lt x z) (tot : ∀ x y, ¬ lt x y → ¬ lt y x → ∀ z, (lt z x ↔ lt z y) ∧ (lt x z ↔ lt y z)) (x : α) : ∀ l : List α, Asc lt l → Asc lt (insA lt x l)
  | [], _ => ⟨fun y h => (by cases h), trivial⟩
  | y :: l, h => by
    rw [insA]
    split
    · rename_i hxy
      exact ⟨fun z hz => by
        rcases List.mem_cons.1 hz with e | hz
        · rw [e]; exact hxy
        · exact tr _ _ _ hxy (h.1 z hz), h⟩
    · split
      · rename_i hyx
        exact ⟨fun z hz => by
          rcases mem_insA lt tot x l z hz with e | hz
          · rw [e]; exact hyx
          · exact h.1 z hz, asc_insA tr tot x l h.2⟩
      · rename_i h1 h2
        exact ⟨fun z hz => ((tot x y h1 h2 z).2).2 (h.1 z hz), h.2⟩
theorem mem_insA_iff [DecidableRel lt] (tr : ∀ x y z, lt x y → lt y z → lt x z) (tot : ∀ x y, ¬ lt x y → ¬ lt y x → ∀ z, (lt z x ↔ lt z y) ∧ (lt x z ↔ lt y z)) (x : α) : ∀ (l : List α), Asc lt l → ∀ z, z ∈ insA lt x l ↔ z = x ∨ (z ∈ l ∧ (lt z x ∨ lt x z))
  | [], _, z => by rw [insA]; simp
  | y :: l, h, z => by
    rw [insA]
    split
    · rename_i hxy
      constructor
      · intro hz
        rcases List.mem_cons.1 hz with e | hz
        · exact Or.inl e
        · refine Or.inr ⟨hz, Or.inr ?_⟩
          rcases List.mem_cons.1 hz with e | hz
          · rw [e]; exact hxy
          · exact tr _ _ _ hxy (h.1 z hz)
      · intro hz
        rcases hz with e | ⟨hz, _⟩
        · rw [e]; exact List.mem_cons_self ..
        · exact List.mem_cons_of_mem _ hz
    · split
      · rename_i hyx
        have ih := mem_insA_iff tr tot x l h.2 z
        constructor
        · intro hz
          rcases List.mem_cons.1 hz with e | hz
          · exact Or.inr ⟨by rw [e]; exact List.mem_cons_self .., Or.inl (by rw [e]; exact hyx)⟩
          · rcases ih.1 hz with e | ⟨hz, hc⟩
            · exact Or.inl e
            · exact Or.inr ⟨List.mem_cons_of_mem _ hz, hc⟩
        · intro hz
          rcases hz with e | ⟨hz, hc⟩
          · exact List.mem_cons_of_mem _ (ih.2 (Or.inl e))
          · rcases List.mem_cons.1 hz with e | hz
            · rw [e]; exact List.mem_cons_self ..
            · exact List.mem_cons_of_mem _ (ih.2 (Or.inr ⟨hz, hc⟩))
      · rename_i h1 h2
        constructor
        · intro hz
          rcases List.mem_cons.1 hz with e | hz
          · exact Or.inl e
          · exact Or.inr ⟨List.mem_cons_of_mem _ hz, Or.inr (((tot x y h1 h2 z).2).2 (h.1 z hz))⟩
        · intro hz
          rcases hz with e | ⟨hz, hc⟩
          · rw [e]; exact List.mem_cons_self ..
          · rcases List.mem_cons.1 hz with e | hz
            · subst e
              exact absurd hc (fun hc => hc.elim h2 h1)
            · exact List.mem_cons_of_mem _ hz
theorem asc_filter (p : α → Bool) : ∀ l : List α, Asc lt l → Asc lt (l.filter p)
  | [], _ => trivial
  | y :: l, h => by
    rw [List.filter_cons]
    split
    · exact ⟨fun z hz => h.1 z (List.mem_filter.1 hz).1, asc_filter p l h.2⟩
    · exact asc_filter p l h.2
end
end Go.Proofs.YtapjbdigpleekaaGreat.Mp

/- mapText, mapAwake; a sorted list of fields is one. No condition. -/
set_option linter.unusedVariables false
set_option linter.unusedSimpArgs false
namespace Go.Proofs.YtapjbdigpleekaaGreat.Mp
open Go.RowKit Go.Proofs.YtapjbdigpleekaaGreat.K Go.Proofs.YtapjbdigpleekaaGreat.Cl
/-- One pair stands ahead of another by its name. -/
def ltP (p q : NP) : Prop := p.1.data.toList < q.1.data.toList
/-- No later name is less than an elder one. -/
def SortedP (L : List NP) : Prop := L.Pairwise fun p q => ¬ q.1.data.toList < p.1.data.toList
theorem sortedN_map {fs : List Cl.Fd} (h : SortedN fs) : SortedP (fs.map fld) := by
  unfold SortedP
  rw [List.pairwise_map]
  exact h
theorem bytes_of_list {x y : ByteArray} (h : x.data.toList = y.data.toList) : x = y := ByteArray.ext (Array.toList_inj.1 h)
theorem sorted_unique {L M : List NP} (hp : L.Perm M) (hn : (L.map (·.1)).Nodup) (h1 : SortedP L) (h2 : SortedP M) : L = M := by
  induction L generalizing M with
  | nil => exact (List.nil_perm.1 hp).symm
  | cons p L ih =>
    cases M with
    | nil => exact absurd hp.symm.nil_eq (by simp)
    | cons q M =>
      have hn' := (hp.map (·.1)).nodup_iff.1 hn
      unfold SortedP at h1 h2
      rw [List.pairwise_cons] at h1 h2
      rw [List.map_cons, List.nodup_cons] at hn hn'
      have e : p = q := by
        refine Classical.byContradiction fun hne => ?_
        have hpM : p ∈ M := by
          rcases List.mem_cons.1 (hp.mem_iff.1 List.mem_cons_self) with h | h
          · exact absurd h hne
          · exact h
        have hqL : q ∈ L := by
          rcases List.mem_cons.1 (hp.mem_iff.2 List.mem_cons_self) with h | h
          · exact absurd h.symm hne
          · exact h
        have a := h1.1 q hqL
        have b := h2.1 p hpM
        have hne2 : p.1.data.toList ≠ q.1.data.toList := fun e => hn.1 (by rw [bytes_of_list e]; exact List.mem_map_of_mem hqL)
        exact hne2 (List.le_antisymm (List.not_lt.1 a) (List.not_lt.1 b))
      subst e
      rw [ih (List.Perm.cons_inv hp) hn.2 h1.2 h2.2]
/-- A field that is a text. -/
def fdT (a b : ByteArray) : Cl.Fd := ⟨a, 0, b, false, 0, none, 0, 0, []⟩
theorem fdT_fld (a b : ByteArray) : fld (fdT a b) = (a, .txt b) := rfl
def TxtP (a b : ByteArray) (w : World) (e : Ending) (w' : World) : Prop := e = .returned (.agg #[.string a, .int .i64 0, .string b, .bool false, .int .i32 0, .slice none 0 0]) ∧ Below w.heap.size w w'
theorem mapText_calls (w : World) (a b : ByteArray) : Calls Tryz.prog 27 #[.string a, .string b] w (TxtP a b w) := by
  go_enter Tryz.func27, Tryz.ntmps27
  go_wp2
  exact bodyPost_ret (results_cell_row rfl _ _ w.heap.size 45 #[.string a, .int .i64 0, .string b, .bool false, .int .i32 0, .slice none 0 0] (0, 0) _ rfl (heap_alloc_new w _) Tryz.underlying45 rfl (by kernel_rfl)) rfl ⟨rfl, below_alloc' (Below.refl w.heap.size w) _⟩
theorem fdT_in {k : Nat} {a b : ByteArray} (h : a ∉ othL k) : FdIn k (fdT a b) := ⟨Int.le_refl _, by show (0 : Int) ≤ 3; decide, Nat.zero_le _, trivial, h⟩
def nKid : ByteArray := ⟨#[107, 105, 100]⟩
def nX : ByteArray := ⟨#[120]⟩
def nY : ByteArray := ⟨#[121]⟩
def vA : ByteArray := ⟨#[97]⟩
def vB : ByteArray := ⟨#[98]⟩
def awakeS : List Ms := [⟨0, fdT nKid vA⟩, ⟨0, fdT nX vB⟩, ⟨2, fdT nY ⟨#[]⟩⟩]
theorem awake_run : runS 0 (awakeS.map stT) [] = ([true, true, false], [(nKid, .txt vA), (nX, .txt vB)]) := by kernel_rfl
theorem not_oth (k : Nat) (n : ByteArray) (h : ((othL k).any fun y => decide (y = n)) = false) : n ∉ othL k := by
  intro hm
  have : ((othL k).any fun y => decide (y = n)) = true := List.any_eq_true.2 ⟨n, hm, by simp⟩
  rw [h] at this
  cases this
theorem awake_in : ∀ s ∈ awakeS, FdIn 0 s.f := by
  intro s hs
  simp only [awakeS, List.mem_cons, List.not_mem_nil, or_false] at hs
  rcases hs with rfl | rfl | rfl
  · exact fdT_in (not_oth 0 _ (by kernel_rfl))
  · exact fdT_in (not_oth 0 _ (by kernel_rfl))
  · exact fdT_in (not_oth 0 _ (by kernel_rfl))
theorem awake_kd : ∀ s ∈ awakeS, s.kd ≠ 3 := by
  intro s hs
  simp only [awakeS, List.mem_cons, List.not_mem_nil, or_false] at hs
  rcases hs with rfl | rfl | rfl
  · show (0 : Int) ≠ 3; decide
  · show (0 : Int) ≠ 3; decide
  · show (2 : Int) ≠ 3; decide
theorem FO.fk {w : World} {B : Nat} {u : Value} {fs : List Cl.Fd} (h : FO w B u fs) : ∀ f ∈ fs, FK f := fun f hf => ⟨(h.2 f hf).2.1, (h.2 f hf).2.2.1, (h.2 f hf).2.2.2.2⟩
/-- What lies in a row of one's own may come in again. -/
theorem FO.in_ {w : World} {B k : Nat} {u : Value} {fs : List Cl.Fd} (h : FO w B u fs) (hO : ∀ f ∈ fs, f.name ∉ othL k) : ∀ f ∈ fs, FdIn k f := fun f hf => ⟨(h.2 f hf).2.1, (h.2 f hf).2.2.1, (h.2 f hf).2.2.2.2, (h.2 f hf).2.2.2.1, hO f hf⟩
theorem mapWhich_calls (w : World) (n : Nat) (hn : n ≤ 255) : Calls Tryz.prog 15 #[.int .u8 (n : Int)] w fun e w' => e = .returned (.int .i64 ((n % 4 : Nat) : Int)) ∧ w' = w := by
  have h1 : Int.tmod (n : Int) 4 = ((n % 4 : Nat) : Int) := by rw [Int.tmod_eq_emod_of_nonneg (by omega)]; omega
  have h2 : IntKind.u8.wrap ((n % 4 : Nat) : Int) = ((n % 4 : Nat) : Int) := by
    rcases (by omega : n % 4 = 0 ∨ n % 4 = 1 ∨ n % 4 = 2 ∨ n % 4 = 3) with h | h | h | h <;> rw [h] <;> rfl
  have h3 : IntKind.i64.wrap ((n % 4 : Nat) : Int) = ((n % 4 : Nat) : Int) := wrap_small _ (by omega) (by omega)
  go_enter Tryz.func15, Tryz.ntmps15
  go_wp2
  go_ret
  exact ⟨by first | rfl | (congr 2; omega), rfl⟩
theorem nil_sl (w : World) : SL w none 0 [] := Reads.none_
theorem awake_ml (w : World) : ML (w.alloc (.cells #[.int .i64 0, .string nKid, .int .i64 0, .string vA, .bool false, .int .i32 0, .slice none 0 0, .int .i64 0, .string nX, .int .i64 0, .string vB, .bool false, .int .i32 0, .slice none 0 0, .int .i64 2, .string nY, .int .i64 0, .string ⟨#[]⟩, .bool false, .int .i32 0, .slice none 0 0] 52)) (some ⟨w.heap.size, 0, none⟩) 3 awakeS :=
  ⟨reads_lit w 7 3 (mvs awakeS) _ rfl rfl _, fun s hs => by
    simp only [awakeS, List.mem_cons, List.not_mem_nil, or_false] at hs
    rcases hs with rfl | rfl | rfl <;> exact nil_sl _⟩
def awakeF : List Cl.Fd := [fdT nKid vA, fdT nX vB]
theorem awake_fl (w : World) : FL (w.alloc (.cells #[.string nKid, .int .i64 0, .string vA, .bool false, .int .i32 0, .slice none 0 0, .string nX, .int .i64 0, .string vB, .bool false, .int .i32 0, .slice none 0 0] 45)) (some ⟨w.heap.size, 0, none⟩) 2 awakeF :=
  ⟨reads_lit w 6 2 (fvs awakeF) _ rfl rfl _, fun s hs => by
    simp only [awakeF, List.mem_cons, List.not_mem_nil, or_false] at hs
    rcases hs with rfl | rfl <;> exact nil_sl _⟩
theorem awake_fk : ∀ f ∈ awakeF, FK f := fun f hs => by
  simp only [awakeF, List.mem_cons, List.not_mem_nil, or_false] at hs
  rcases hs with rfl | rfl <;> exact ⟨Int.le_refl _, by show (0 : Int) ≤ 3; decide, Nat.zero_le _⟩
theorem awake_eq {fs : List Cl.Fd} (hp : (fs.map fld).Perm (runS 0 (awakeS.map stT) []).2) (hs : SortedN fs) : fs.map fld = awakeF.map fld := by
  rw [awake_run] at hp
  refine sorted_unique hp ((hp.map (·.1)).nodup_iff.2 ?_) (sortedN_map hs) ?_
  · show [nKid, nX].Nodup
    rw [List.nodup_iff_pairwise_ne]
    simp [nKid, nX]
  · show SortedP [(nKid, _), (nX, _)]
    unfold SortedP
    rw [List.pairwise_cons]
    refine ⟨fun q hq => ?_, by rw [List.pairwise_cons]; exact ⟨fun _ h => (by cases h), List.Pairwise.nil⟩⟩
    rw [List.mem_singleton.1 hq]
    show ¬ ([120] : List UInt8) < [107, 105, 100]
    decide
set_option maxRecDepth 100000 in
set_option maxHeartbeats 4000000 in
theorem mapAwake_calls (w : World) : Calls Tryz.prog 17 #[] w (BoolB w true) := by
  have HT := Lib.hid mapText_calls
  go_enter Tryz.func17, Tryz.ntmps17
  go_wp2_with fail
  refine (HT.out w nKid vA).mono ?_
  rintro e w1 ⟨rfl, hb1⟩
  have HB1 := Lib.hid hb1
  clear hb1
  go_wp2_with fail
  refine (HT.out w1 nX vB).mono ?_
  rintro e w2 ⟨rfl, hb2⟩
  have HB2 := Lib.hid (K.below_then HB1.out hb2)
  clear hb2
  go_wp2_with fail
  refine (HT.out w2 nY ⟨#[]⟩).mono ?_
  rintro e w3 ⟨rfl, hb3⟩
  have HB3 := Lib.hid (K.below_then HB2.out hb3)
  clear hb3 HB1 HB2
  have HM := Lib.hid (Mapped_calls (k := 0) (by decide) (c := 3) (awake_ml w3) awake_in (by decide) (.inl awake_kd))
  have HB4 := Lib.hid (below_alloc' HB3.out (.cells #[.int .i64 0, .string nKid, .int .i64 0, .string vA, .bool false, .int .i32 0, .slice none 0 0, .int .i64 0, .string nX, .int .i64 0, .string vB, .bool false, .int .i32 0, .slice none 0 0, .int .i64 2, .string nY, .int .i64 0, .string ⟨#[]⟩, .bool false, .int .i32 0, .slice none 0 0] 52))
  go_wp2_with fail
  refine HM.out.mono ?_
  rintro e w5 ⟨A1, n1, c1, A2, n2, c2, fs, rfl, hbo, hn1, hfo, hn2, hpm, hsrt, hb5⟩
  have HE := Lib.hid (awake_eq hpm hsrt)
  rw [awake_run] at hbo
  have H5 := Lib.hid (And.intro hbo (And.intro hn1 (And.intro hfo hn2)))
  have HB5 := Lib.hid (K.below_then HB4.out hb5)
  have HQ := Lib.hid (BEqual_calls (w5.alloc (.cells #[.bool true, .bool true, .bool false] 4)) A1 (some ⟨w5.heap.size, 0, none⟩) [true, true, false] [true, true, false] n1 c1 3 3 ((hbo.bl hn1).below (below_alloc' (Below.refl _ _) _) (Nat.le_refl _)) (reads_lit w5 1 3 _ _ rfl rfl _) (by rw [hn1]; decide) true (by decide))
  clear hbo hn1 hfo hn2 hpm hsrt hb5 HM
  have HB6 := Lib.hid (below_alloc' HB5.out (.cells #[.bool true, .bool true, .bool false] 4))
  go_wp2_with fail
  refine HQ.out.mono ?_
  rintro e w6 ⟨rfl, hb6⟩
  have HB7 := Lib.hid (K.below_then HB6.out hb6)
  have HF6 := Lib.hid (H5.out.2.2.1.below ((below_alloc' (Below.refl _ _) (.cells #[.bool true, .bool true, .bool false] 4)).trans (hb6.mono (by simp))))
  clear hb6 HQ
  go_wp2_with fail
  refine (HT.out w6 nKid vA).mono ?_
  rintro e w7 ⟨rfl, hb7⟩
  have HF7 := Lib.hid (HF6.out.below hb7)
  have HB8 := Lib.hid (K.below_then HB7.out hb7)
  clear hb7
  go_wp2_with fail
  refine (HT.out w7 nX vB).mono ?_
  rintro e w8 ⟨rfl, hb8⟩
  have HF8 := Lib.hid (HF7.out.below hb8)
  have HB9 := Lib.hid (K.below_then HB8.out hb8)
  clear hb8
  have HF9 := Lib.hid (HF8.out.below (below_alloc' (Below.refl _ _) (.cells #[.string nKid, .int .i64 0, .string vA, .bool false, .int .i32 0, .slice none 0 0, .string nX, .int .i64 0, .string vB, .bool false, .int .i32 0, .slice none 0 0] 45)))
  have HS := Lib.hid (MapSame_calls _ A2 (some ⟨w8.heap.size, 0, none⟩) n2 c2 2 2 fs awakeF (HF9.out.fl H5.out.2.2.2) (awake_fl w8) HF9.out.fk awake_fk (by have h := congrArg List.length HE.out; rw [List.length_map, List.length_map] at h; have h2 : awakeF.length = 2 := rfl; have := H5.out.2.2.2; omega))
  have HBA := Lib.hid (below_alloc' HB9.out (.cells #[.string nKid, .int .i64 0, .string vA, .bool false, .int .i32 0, .slice none 0 0, .string nX, .int .i64 0, .string vB, .bool false, .int .i32 0, .slice none 0 0] 45))
  go_wp2_with fail
  refine HS.out.mono ?_
  rintro e w9 ⟨r, rfl, hr, hb9⟩
  have HR := Lib.hid (hr.2 HE.out)
  have HBB := Lib.hid (K.below_then HBA.out hb9)
  clear hr hb9 HS
  go_wp2
  go_ret
  exact ⟨ret_bool HR.out, HBB.out⟩
end Go.Proofs.YtapjbdigpleekaaGreat.Mp
