/- Walks of jwt.New, Set of "aud", Audience, impl.Audience; the conditions are on sizes alone. -/
import Derived.Test.YtlahgmfpdfblkaaClAcc
import Derived.Deep.Cut
import Derived.Deep.CutBlock
import Derived.Deep.CutRange
import Derived.Deep.DeepCutAuto
set_option linter.unusedVariables false
set_option linter.unusedSimpArgs false
namespace Go.Proofs.Ytlahgmfpdfblkaa.Cl
open Go.RowKit Go.Proofs.Ytlahgmfpdfblkaa.K
def Tok (w : World) (g : Nat) (S : Value) (m : Nat) : Prop := Blk w g 60 #[.int .u64 0, S, .pointer none, .pointer none, .pointer none, .map (some m)]
set_option maxRecDepth 100000 in
theorem OptSet_calls (w : World) : Calls Try.prog 20 #[] w fun e w' => e = .returned (.int .u64 0) ∧ w = w' := by
  go_enter Try.func20, Try.ntmps20
  go_wp2
  go_ret
  exact ⟨rfl, rfl⟩
def NewPost (w : World) (e : Ending) (w' : World) : Prop := ∃ g m, e = .returned (.iface 53 (.pointer (some ⟨g, 0, none⟩))) ∧ Tok w' g (.slice none 0 0) m ∧ w.heap.size ≤ g ∧ Below w.heap.size w w'
set_option maxRecDepth 100000 in
set_option maxHeartbeats 1000000 in
theorem New_calls (w : World) : Calls Try.prog 16 #[] w (NewPost w) := by
  have HO := Lib.hid (fun W => OptSet_calls W)
  have hmk : ∀ W : World, Sem.run Try.prog (Instr.makeMap 54 none) W = .ok (.map (some W.heap.size)) (W.alloc (.map #[] 0)) := fun W => by kernel_rfl
  go_enter Try.func16, Try.ntmps16
  go_wp2_with fail
  refine (HO.out _).mono ?_
  rintro e w1 ⟨rfl, rfl⟩
  go_wp2
  go_ret
  refine ⟨w.heap.size + 1, w.heap.size, rfl, ?_, by omega, below_alloc' (below_alloc' (Below.refl _ _) _) _⟩
  have := Blk.new (w.alloc (.map #[] 0)) 60 #[.int .u64 0, .slice none 0 0, .pointer none, .pointer none, .pointer none, .map (some w.heap.size)]
  rwa [show (w.alloc (.map #[] 0)).heap.size = w.heap.size + 1 from by simp] at this
def SetYes (w0 : World) (g m n : Nat) (L : List ByteArray) (e : Ending) (w' : World) : Prop :=
  (∃ u, e = .returned u) ∧ Below w0.heap.size w0 w' ∧ ∃ a c, Tok w' g (.slice (some a) n c) m ∧ SL w' (some a) n L
def SetNo (w0 : World) (g m : Nat) (e : Ending) (w' : World) : Prop := (∃ u, e = .returned u) ∧ Below w0.heap.size w0 w' ∧ Tok w' g (.slice none 0 0) m
set_option maxRecDepth 100000 in
set_option maxHeartbeats 2000000 in
theorem setNoLock_text (w0 w : World) (g m : Nat) (s : ByteArray) (hB : Below w0.heap.size w0 w) (hg : w0.heap.size ≤ g) (ht : Tok w g (.slice none 0 0) m) :
    Calls Try.prog 50 #[.pointer (some ⟨g, 0, none⟩), .string ⟨#[97, 117, 100]⟩, .iface 9 (.string s)] w (SetYes w0 g m 1 [s]) := by
  have HA := Lib.hid (Accept_text (w.alloc (.cells #[.slice none 0 0] 31)) w.heap.size s (Blk.new w _ _))
  have HT := Lib.hid (Blk.alloc ht (.cells #[.slice none 0 0] 31))
  have HLT := Lib.hid (Blk.lt ht)
  have HB := Lib.hid (And.intro (below_alloc' hB (.cells #[.slice none 0 0] 31)) (And.intro hB.size hg))
  clear ht hB hg
  go_enter Try.func50, Try.ntmps50
  go_wp2_with fail
  refine HA.out.mono ?_
  rintro e w1 ⟨rfl, hg1, a, c, hb1, hs1, hne, hab⟩
  have hc1 : w1.cell? ⟨w.heap.size, 0, none⟩ = some (.slice (some a) 1 c) := by rw [hb1.cell]; rfl
  have ht1 : Tok w1 g (.slice none 0 0) m := HT.out.grown hg1 (by intro e; have := HLT.out; have e2 : g = w.heap.size := Option.some.inj e; omega)
  have hc2 : w1.cell? ⟨g, 1, none⟩ = some (.slice none 0 0) := by rw [Blk.cell ht1]; rfl
  have hf2 : w1.frozen? ⟨g, 1, none⟩ = false := Blk.frozen ht1 1
  have HT1 := Lib.hid ht1
  have HS1 := Lib.hid (And.intro hs1 (show a.block ≠ g by have := HLT.out; simp at hab; omega))
  have HB1 := Lib.hid (HB.out.1.grown hg1 (by have := HB.out.2.1; simp; omega) (by intro j hj; cases hj; exact HB.out.2.1))
  clear ht1 hs1 hne hab hb1 hg1 HA
  go_wp2
  go_ret
  have hst := setCell_grown w1 ⟨g, 1, none⟩ (.slice (some a) 1 c)
  exact ⟨⟨_, rfl⟩, HB1.out.grown hst HB1.out.size (by intro j hj; cases hj; exact HB.out.2.2), a, c, HT1.out.set_ 1 _, HS1.out.1.grown hst HS1.out.2⟩
set_option maxRecDepth 100000 in
set_option maxHeartbeats 2000000 in
theorem setNoLock_list (w0 w : World) (g m : Nat) (a : Addr) (n ca : Nat) (l : List ByteArray) (hB : Below w0.heap.size w0 w) (hg : w0.heap.size ≤ g) (ht : Tok w g (.slice none 0 0) m) (hl : SL w (some a) n l) (hag : a.block ≠ g) (hab : a.block < w.heap.size) :
    Calls Try.prog 50 #[.pointer (some ⟨g, 0, none⟩), .string ⟨#[97, 117, 100]⟩, .iface 23 (.slice (some a) n ca)] w (SetYes w0 g m n l) := by
  have HA := Lib.hid (Accept_list (w.alloc (.cells #[.slice none 0 0] 31)) w.heap.size a n ca l (Blk.new w _ _) (hl.below (below_alloc' (Below.refl w.heap.size w) _) (Nat.le_refl _)) (by omega))
  have HT := Lib.hid (Blk.alloc ht (.cells #[.slice none 0 0] 31))
  have HLT := Lib.hid (Blk.lt ht)
  have HB := Lib.hid (And.intro (below_alloc' hB (.cells #[.slice none 0 0] 31)) (And.intro hB.size hg))
  have HAG := Lib.hid hag
  clear ht hB hg hl hag hab
  go_enter Try.func50, Try.ntmps50
  go_wp2_with fail
  refine HA.out.mono ?_
  rintro e w1 ⟨rfl, hg1, a', c, hb1, hs1, hne, hab⟩
  subst hab
  have hc1 : w1.cell? ⟨w.heap.size, 0, none⟩ = some (.slice (some a') n c) := by rw [hb1.cell]; rfl
  have ht1 : Tok w1 g (.slice none 0 0) m := HT.out.grown hg1 (by intro e; have := HLT.out; have e2 : g = w.heap.size := Option.some.inj e; omega)
  have hc2 : w1.cell? ⟨g, 1, none⟩ = some (.slice none 0 0) := by rw [Blk.cell ht1]; rfl
  have hf2 : w1.frozen? ⟨g, 1, none⟩ = false := Blk.frozen ht1 1
  have HT1 := Lib.hid ht1
  have HS1 := Lib.hid hs1
  have HB1 := Lib.hid (HB.out.1.grown hg1 (by have := HB.out.2.1; simp; omega) (by intro j hj; cases hj; exact HB.out.2.1))
  clear ht1 hs1 hne hb1 hg1 HA
  go_wp2
  go_ret
  have hst := setCell_grown w1 ⟨g, 1, none⟩ (.slice (some a') n c)
  exact ⟨⟨_, rfl⟩, HB1.out.grown hst HB1.out.size (by intro j hj; cases hj; exact HB.out.2.2), a', c, HT1.out.set_ 1 _, HS1.out.grown hst HAG.out⟩
set_option maxRecDepth 100000 in
set_option maxHeartbeats 2000000 in
theorem setNoLock_other (w0 w : World) (g m : Nat) (v : Value) (hv : IsOther v) (hB : Below w0.heap.size w0 w) (hg : w0.heap.size ≤ g) (ht : Tok w g (.slice none 0 0) m) :
    Calls Try.prog 50 #[.pointer (some ⟨g, 0, none⟩), .string ⟨#[97, 117, 100]⟩, v] w (SetNo w0 g m) := by
  have HA := Lib.hid (Accept_other (w.alloc (.cells #[.slice none 0 0] 31)) w.heap.size v hv)
  have HT := Lib.hid (Blk.alloc ht (.cells #[.slice none 0 0] 31))
  have HB := Lib.hid (below_alloc' hB (.cells #[.slice none 0 0] 31))
  have HE := Lib.hid (fun W s => errNew_calls W s)
  clear ht hB hv
  go_enter Try.func50, Try.ntmps50
  go_wp2_with fail
  refine HA.out.mono ?_
  rintro e w1 ⟨⟨T, u, rfl⟩, hB1⟩
  have ht1 := HT.out.below hB1 HT.out.lt
  have HB1 := Lib.hid (HB.out.trans (hB1.mono HB.out.size))
  clear hB1
  go_wp2_with fail
  refine (HE.out _ _).mono ?_
  rintro e w2 ⟨⟨T2, u2, rfl⟩, hB2⟩
  have HT2 := Lib.hid (Blk.below ht1 hB2 ht1.lt)
  have HB2 := Lib.hid (HB1.out.trans (hB2.mono HB1.out.size))
  clear ht1 hB2
  go_wp2
  go_ret
  exact ⟨⟨_, rfl⟩, HB2.out, HT2.out⟩
def ValText (w : World) (t : ByteArray) (e : Ending) (w' : World) : Prop := e = .returned (.iface 9 (.string t)) ∧ Below w.heap.size w w'
theorem value_text (w : World) (t : ByteArray) (b : Bool) (z : Int) (A : Option Addr) (n c : Nat) (l : List ByteArray) (h : SL w A n l) (hn : n ≤ 100000) :
    Calls Try.prog 13 #[.agg #[.int .i64 0, .string t, .bool b, .int .i32 z, .slice A n c]] w (ValText w t) := (value_calls w 0 t b z A n c l h hn).mono fun e w' h => by
  obtain ⟨hB, ⟨_, he⟩ | ⟨h3, _⟩ | ⟨h0, _⟩⟩ := h
  · exact ⟨he, hB⟩
  · exact absurd h3 (by decide)
  · exact absurd rfl h0
def ValList (w : World) (n : Nat) (l : List ByteArray) (e : Ending) (w' : World) : Prop := ∃ a c, e = .returned (.iface 23 (.slice (some a) n c)) ∧ SL w' (some a) n l ∧ w.heap.size ≤ a.block ∧ a.block < w'.heap.size ∧ Below w.heap.size w w'
theorem value_list (w : World) (t : ByteArray) (b : Bool) (z : Int) (A : Option Addr) (n c : Nat) (l : List ByteArray) (h : SL w A n l) (hn : n ≤ 100000) :
    Calls Try.prog 13 #[.agg #[.int .i64 3, .string t, .bool b, .int .i32 z, .slice A n c]] w (ValList w n l) := (value_calls w 3 t b z A n c l h hn).mono fun e w' h => by
  obtain ⟨hB, ⟨h0, _⟩ | ⟨_, a, c, he, h1, h2, h3⟩ | ⟨_, h3, _⟩⟩ := h
  · exact absurd h0 (by decide)
  · exact ⟨a, c, he, h1, h2, h3, hB⟩
  · exact absurd rfl h3
def ValOther (w : World) (e : Ending) (w' : World) : Prop := ∃ v, e = .returned v ∧ IsOther v ∧ Below w.heap.size w w'
theorem value_other (w : World) (k : Int) (t : ByteArray) (b : Bool) (z : Int) (A : Option Addr) (n c : Nat) (l : List ByteArray) (h : SL w A n l) (hn : n ≤ 100000) (h0 : k ≠ 0) (h3 : k ≠ 3) :
    Calls Try.prog 13 #[.agg #[.int .i64 k, .string t, .bool b, .int .i32 z, .slice A n c]] w (ValOther w) := (value_calls w k t b z A n c l h hn).mono fun e w' h => by
  obtain ⟨hB, ⟨h0', _⟩ | ⟨h3', _⟩ | ⟨_, _, v, he, ho⟩⟩ := h
  · exact absurd h0' h0
  · exact absurd h3' h3
  · exact ⟨v, he, ho, hB⟩
theorem five_cells {w : World} {g : Nat} {T : TypeId} {a b c d e : Value} (h : Blk w g T #[a, b, c, d, e]) : w.cell? ⟨g, 0, none⟩ = some a ∧ w.cell? ⟨g, 1, none⟩ = some b ∧ w.cell? ⟨g, 2, none⟩ = some c ∧ w.cell? ⟨g, 3, none⟩ = some d ∧ w.cell? ⟨g, 4, none⟩ = some e :=
  ⟨by rw [h.cell]; rfl, by rw [h.cell]; rfl, by rw [h.cell]; rfl, by rw [h.cell]; rfl, by rw [h.cell]; rfl⟩
theorem SClone_nil (w : World) : Calls Try.prog 14 #[.slice none 0 0] w fun e w' => e = .returned (.slice none 0 0) ∧ w = w' := by
  have hnil := fun W : World => Lib.run_eql_slice_nil (P := Try.prog) W 23 9 none 0 0 0 0 Try.underlying23
  go_enter Try.func14, Try.ntmps14
  go_wp2
  go_ret
  exact ⟨rfl, rfl⟩
theorem Set_calls (w : World) (g : Nat) (s : ByteArray) (v : Value) (Q : Ending → World → Prop) (h : Calls Try.prog 50 #[.pointer (some ⟨g, 0, none⟩), .string s, v] w Q) (hq : ∀ e w', Q e w' → ∃ u, e = .returned u) :
    Calls Try.prog 48 #[.pointer (some ⟨g, 0, none⟩), .string s, v] w Q := by
  have HA := Lib.hid h
  have HQ := Lib.hid hq
  clear h hq
  go_enter Try.func48, Try.ntmps48
  go_wp2_with fail
  refine HA.out.mono ?_
  intro e w1 h1
  obtain ⟨u, rfl⟩ := HQ.out e w1 h1
  have H1 := Lib.hid h1
  clear h1
  go_wp2
  exact H1.out
set_option maxRecDepth 100000 in
theorem AudGet_yes (w : World) (g m n c : Nat) (a : Addr) (ht : Tok w g (.slice (some a) n c) m) :
    Calls Try.prog 39 #[.pointer (some ⟨g, 0, none⟩)] w fun e w' => e = .returned (.tuple #[.slice (some a) n c, .bool true]) ∧ w = w' := by
  have hc : w.cell? ⟨g, 1, none⟩ = some (.slice (some a) n c) := by rw [Blk.cell ht]; rfl
  have hnil := fun W : World => Go.run_neq_slice_nil (P := Try.prog) W 31 9 (some a) n c Try.underlying31
  have HG := Lib.hid (Get_calls w (some a) n c)
  clear ht
  go_enter Try.func39, Try.ntmps39
  go_wp2_with fail
  refine HG.out.mono ?_
  rintro e w1 ⟨rfl, rfl⟩
  go_wp2
  exact bodyPost_ret (v := .tuple #[.slice (some a) n c, .bool true]) (by kernel_rfl) rfl ⟨rfl, rfl⟩
set_option maxRecDepth 100000 in
theorem AudGet_no (w : World) (g m : Nat) (ht : Tok w g (.slice none 0 0) m) :
    Calls Try.prog 39 #[.pointer (some ⟨g, 0, none⟩)] w fun e w' => e = .returned (.tuple #[.slice none 0 0, .bool false]) ∧ w = w' := by
  have hc : w.cell? ⟨g, 1, none⟩ = some (.slice none 0 0) := by rw [Blk.cell ht]; rfl
  have hnil := fun W : World => Go.run_neq_slice_nil (P := Try.prog) W 31 9 none 0 0 Try.underlying31
  clear ht
  go_enter Try.func39, Try.ntmps39
  go_wp2
  exact bodyPost_ret (v := .tuple #[.slice none 0 0, .bool false]) (by kernel_rfl) rfl ⟨rfl, rfl⟩
set_option maxRecDepth 100000 in
set_option maxHeartbeats 4000000 in
theorem Audience_calls (w : World) (k : Int) (t : ByteArray) (b : Bool) (z : Int) (A : Option Addr) (n c : Nat) (l : List ByteArray) (h : SL w A n l) (hn : n ≤ 100000) :
    Calls Try.prog 7 #[plainV k t b z A n c] w (LPost w k t l) := by
  unfold plainV
  have hna : ∀ (W : World) (g : Nat), Sem.run Try.prog (nilAhead 190 53 (.pointer (some ⟨g, 0, none⟩)) "Set") W = .ok (some false) W := fun W g => by kernel_rfl
  have hms : ∀ (W : World) (g : Nat), (method 190 53 (.pointer (some ⟨g, 0, none⟩)) "Set").run Try.prog W = .ok (48, .pointer (some ⟨g, 0, none⟩)) W := fun W g => by kernel_rfl
  have hma : ∀ (W : World) (g : Nat), (method 190 53 (.pointer (some ⟨g, 0, none⟩)) "Audience").run Try.prog W = .ok (39, .pointer (some ⟨g, 0, none⟩)) W := fun W g => by kernel_rfl
  obtain ⟨wP, hwP⟩ : ∃ wP, wP = w.alloc (.cells #[.int .i64 k, .string t, .bool b, .int .i32 z, .slice A n c] 25) := ⟨_, rfl⟩
  have hB1 : Below w.heap.size w wP := by rw [hwP]; exact below_alloc' (Below.refl w.heap.size w) _
  have hbk : Blk wP w.heap.size 25 #[.int .i64 k, .string t, .bool b, .int .i32 z, .slice A n c] := by rw [hwP]; exact Blk.new w _ _
  have hsz : wP.heap.size = w.heap.size + 1 := by rw [hwP]; simp
  have HN := Lib.hid (New_calls wP)
  have HB1 := Lib.hid hB1
  have HBK := Lib.hid hbk
  have HL := Lib.hid h
  have HSZ := Lib.hid hsz
  clear hB1 hbk h hsz
  go_enter Try.func7, Try.ntmps7
  go_wp2_with fail
  rw [← hwP]
  clear hwP
  refine HN.out.mono ?_
  rintro e w2 ⟨g, m, rfl, ht, hg, hB2⟩
  have HBP := Lib.hid hB2
  have HB2 := Lib.hid (below_then HB1.out hB2)
  have HBK2 := Lib.hid (HBK.out.below hB2 HBK.out.lt)
  have HT := Lib.hid (And.intro ht (And.intro hg (show w.heap.size < g by have := HSZ.out; omega)))
  clear ht hg hB2 HN
  by_cases h0 : k = 0
  · subst h0
    go_upto_region 2 with (fail)
    go_cut [4] (fun u wx => u = .iface 53 (.pointer (some ⟨g, 0, none⟩)) ∧ Hid (Below w.heap.size w wx) ∧ Hid (∃ a c, Tok wx g (.slice (some a) 1 c) m ∧ SL wx (some a) 1 [t]))
    case first =>
      have HBD : Hid (Blk w2.drew w.heap.size 25 #[.int .i64 0, .string t, .bool b, .int .i32 z, .slice A n c]) := HBK2
      have HTD : Hid (Tok w2.drew g (.slice none 0 0) m) := Lib.hid HT.out.1
      have HV := Lib.hid (value_text w2.drew t b z A n c l (HL.out.below HB2.out.drew (Nat.le_refl _)) hn)
      go_region_held3 (fun W => W.cell? ⟨w.heap.size, 0, none⟩ = some (.int .i64 0) ∧ W.cell? ⟨w.heap.size, 1, none⟩ = some (.string t) ∧ W.cell? ⟨w.heap.size, 2, none⟩ = some (.bool b) ∧ W.cell? ⟨w.heap.size, 3, none⟩ = some (.int .i32 z) ∧ W.cell? ⟨w.heap.size, 4, none⟩ = some (.slice A n c)) (first | exact five_cells HBK4.out | exact five_cells HBK3.out | exact five_cells HBD.out) (first
        | ((with_reducible refine Calls.mono HV.out ?_); rintro e w3 ⟨rfl, hB3⟩; have HB3 := Lib.hid (HBP.out.drew.trans (hB3.mono HBP.out.size)); have HBK3 := Lib.hid (HBD.out.below hB3 HBD.out.lt); have HT3 := Lib.hid (Blk.below HTD.out hB3 HTD.out.lt); have HS := Lib.hid (Set_calls w3 g ⟨#[97, 117, 100]⟩ _ _ (setNoLock_text wP w3 g m t HB3.out HT.out.2.1 HT3.out) (fun e w' h => h.1)); clear hB3 HV)
        | ((with_reducible refine Calls.mono HS.out ?_); rintro e w4 ⟨⟨u4, rfl⟩, hB4, ht4⟩; have HB4 := Lib.hid (below_then HB1.out hB4); have HBK4 := Lib.hid (HBK.out.below hB4 HBK.out.lt); have HT4 := Lib.hid ht4; clear hB4 ht4))
      all_goals
        go_wp2_with fail
        go_meet
        case rel => exact ⟨rfl, HB4, HT4⟩
    case rest =>
      obtain ⟨rfl, HB4, HT4⟩ := hcut
      obtain ⟨a, c4, ht4, hs4⟩ := HT4.out
      have HG := Lib.hid (AudGet_yes wc g m 1 c4 a ht4)
      have HC := Lib.hid (SClone_calls wc (some a) [t] 1 c4 hs4 (by omega))
      clear ht4 hs4 HT4
      go_wp2_with fail
      refine HG.out.mono ?_
      rintro e w5 ⟨rfl, rfl⟩
      go_wp2_with fail
      refine HC.out.mono ?_
      rintro e w6 ⟨A6, c6, rfl, hs6, hB6⟩
      have HB6 := Lib.hid (below_then HB4.out hB6)
      have HS6 := Lib.hid hs6
      clear hs6 hB6
      go_wp2
      exact bodyPost_ret (v := .tuple #[.slice A6 1 c6, .bool true]) (by kernel_rfl) rfl ⟨HB6.out, Or.inl ⟨[t], A6, 1, c6, rfl, rfl, HS6.out⟩⟩
  by_cases h3 : k = 3
  · subst h3
    go_upto_region 2 with (fail)
    go_cut [4] (fun u wx => u = .iface 53 (.pointer (some ⟨g, 0, none⟩)) ∧ Hid (Below w.heap.size w wx) ∧ Hid (∃ a c, Tok wx g (.slice (some a) n c) m ∧ SL wx (some a) n l))
    case first =>
      have HBD : Hid (Blk w2.drew w.heap.size 25 #[.int .i64 3, .string t, .bool b, .int .i32 z, .slice A n c]) := HBK2
      have HTD : Hid (Tok w2.drew g (.slice none 0 0) m) := Lib.hid HT.out.1
      have HV := Lib.hid (value_list w2.drew t b z A n c l (HL.out.below HB2.out.drew (Nat.le_refl _)) hn)
      go_region_held3 (fun W => W.cell? ⟨w.heap.size, 0, none⟩ = some (.int .i64 3) ∧ W.cell? ⟨w.heap.size, 1, none⟩ = some (.string t) ∧ W.cell? ⟨w.heap.size, 2, none⟩ = some (.bool b) ∧ W.cell? ⟨w.heap.size, 3, none⟩ = some (.int .i32 z) ∧ W.cell? ⟨w.heap.size, 4, none⟩ = some (.slice A n c)) (first | exact five_cells HBK4.out | exact five_cells HBK3.out | exact five_cells HBD.out) (first
        | ((with_reducible refine Calls.mono HV.out ?_); rintro e w3 ⟨av, cv, rfl, hsl, hba, hbb, hB3⟩; have HB3 := Lib.hid (HBP.out.drew.trans (hB3.mono HBP.out.size)); have HBK3 := Lib.hid (HBD.out.below hB3 HBD.out.lt); have HT3 := Lib.hid (Blk.below HTD.out hB3 HTD.out.lt); have HS := Lib.hid (Set_calls w3 g ⟨#[97, 117, 100]⟩ _ _ (setNoLock_list wP w3 g m av n cv l HB3.out HT.out.2.1 HT3.out hsl (by have hlt : g < w2.heap.size := Blk.lt HT.out.1; have hav : w2.heap.size ≤ av.block := hba; omega) hbb) (fun e w' h => h.1)); clear hB3 HV)
        | ((with_reducible refine Calls.mono HS.out ?_); rintro e w4 ⟨⟨u4, rfl⟩, hB4, ht4⟩; have HB4 := Lib.hid (below_then HB1.out hB4); have HBK4 := Lib.hid (HBK.out.below hB4 HBK.out.lt); have HT4 := Lib.hid ht4; clear hB4 ht4))
      all_goals
        go_wp2_with fail
        go_meet
        case rel => exact ⟨rfl, HB4, HT4⟩
    case rest =>
      obtain ⟨rfl, HB4, HT4⟩ := hcut
      obtain ⟨a, c4, ht4, hs4⟩ := HT4.out
      have HG := Lib.hid (AudGet_yes wc g m n c4 a ht4)
      have HC := Lib.hid (SClone_calls wc (some a) l n c4 hs4 (by omega))
      clear ht4 hs4 HT4
      go_wp2_with fail
      refine HG.out.mono ?_
      rintro e w5 ⟨rfl, rfl⟩
      go_wp2_with fail
      refine HC.out.mono ?_
      rintro e w6 ⟨A6, c6, rfl, hs6, hB6⟩
      have HB6 := Lib.hid (below_then HB4.out hB6)
      have HS6 := Lib.hid hs6
      clear hs6 hB6
      go_wp2
      exact bodyPost_ret (v := .tuple #[.slice A6 n c6, .bool true]) (by kernel_rfl) rfl ⟨HB6.out, Or.inl ⟨l, A6, n, c6, rfl, rfl, HS6.out⟩⟩
  ·
    go_upto_region 2 with (fail)
    go_cut [4] (fun u wx => u = .iface 53 (.pointer (some ⟨g, 0, none⟩)) ∧ Hid (Below w.heap.size w wx) ∧ Hid (Tok wx g (.slice none 0 0) m))
    case first =>
      have HBD : Hid (Blk w2.drew w.heap.size 25 #[.int .i64 k, .string t, .bool b, .int .i32 z, .slice A n c]) := HBK2
      have HTD : Hid (Tok w2.drew g (.slice none 0 0) m) := Lib.hid HT.out.1
      have HV := Lib.hid (value_other w2.drew k t b z A n c l (HL.out.below HB2.out.drew (Nat.le_refl _)) hn h0 h3)
      go_region_held3 (fun W => W.cell? ⟨w.heap.size, 0, none⟩ = some (.int .i64 k) ∧ W.cell? ⟨w.heap.size, 1, none⟩ = some (.string t) ∧ W.cell? ⟨w.heap.size, 2, none⟩ = some (.bool b) ∧ W.cell? ⟨w.heap.size, 3, none⟩ = some (.int .i32 z) ∧ W.cell? ⟨w.heap.size, 4, none⟩ = some (.slice A n c)) (first | exact five_cells HBK4.out | exact five_cells HBK3.out | exact five_cells HBD.out) (first
        | ((with_reducible refine Calls.mono HV.out ?_); rintro e w3 ⟨vv, rfl, hvo, hB3⟩; have HB3 := Lib.hid (HBP.out.drew.trans (hB3.mono HBP.out.size)); have HBK3 := Lib.hid (HBD.out.below hB3 HBD.out.lt); have HT3 := Lib.hid (Blk.below HTD.out hB3 HTD.out.lt); have HS := Lib.hid (Set_calls w3 g ⟨#[97, 117, 100]⟩ _ _ (setNoLock_other wP w3 g m vv hvo HB3.out HT.out.2.1 HT3.out) (fun e w' h => h.1)); clear hB3 HV)
        | ((with_reducible refine Calls.mono HS.out ?_); rintro e w4 ⟨⟨u4, rfl⟩, hB4, ht4⟩; have HB4 := Lib.hid (below_then HB1.out hB4); have HBK4 := Lib.hid (HBK.out.below hB4 HBK.out.lt); have HT4 := Lib.hid ht4; clear hB4 ht4))
      all_goals
        go_wp2_with fail
        go_meet
        case rel => exact ⟨rfl, HB4, HT4⟩
    case rest =>
      obtain ⟨rfl, HB4, HT4⟩ := hcut
      have HG := Lib.hid (AudGet_no wc g m HT4.out)
      have HC := Lib.hid (SClone_nil wc)
      have HNO : Hid (listOf k t l = none) := Lib.hid (by rw [listOf, if_neg h0, if_neg h3])
      clear HT4 h0 h3
      go_wp2_with fail
      refine HG.out.mono ?_
      rintro e w5 ⟨rfl, rfl⟩
      go_wp2_with fail
      refine HC.out.mono ?_
      rintro e w6 ⟨rfl, rfl⟩
      go_wp2
      exact bodyPost_ret (v := .tuple #[.slice none 0 0, .bool false]) (by kernel_rfl) rfl ⟨HB4.out, Or.inr ⟨HNO.out, rfl⟩⟩
end Go.Proofs.Ytlahgmfpdfblkaa.Cl
