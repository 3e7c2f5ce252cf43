/- Walks of jwt.New, Set of "aud", Audience, impl.Audience; the conditions are on sizes alone. -/
import Derived.Test.YtlahgmfpdfblkaaGreatClAcc
import Derived.Deep.Cut
import Derived.Deep.CutBlock
import Derived.Deep.CutRange
import Derived.Deep.DeepCutAuto
set_option linter.unusedVariables false
set_option linter.unusedSimpArgs false
namespace Go.Proofs.YtlahgmfpdfblkaaGreat.Cl
open Go.RowKit Go.Proofs.YtlahgmfpdfblkaaGreat.K
def Tok (w : World) (g : Nat) (S : Value) (m : Nat) : Prop := Blk w g 101 #[.int .u64 0, S, .pointer none, .pointer none, .pointer none, .map (some m)]
set_option maxRecDepth 100000 in
theorem OptSet_calls (w : World) : Calls Tryz.prog 29 #[] w fun e w' => e = .returned (.int .u64 0) ∧ w = w' := by
  go_enter Tryz.func29, Tryz.ntmps29
  go_wp2
  go_ret
  exact ⟨rfl, rfl⟩
def NewPost (w : World) (e : Ending) (w' : World) : Prop := ∃ g m, e = .returned (.iface 99 (.pointer (some ⟨g, 0, none⟩))) ∧ Tok w' g (.slice none 0 0) m ∧ w.heap.size ≤ g ∧ Below w.heap.size w w'
set_option maxRecDepth 100000 in
set_option maxHeartbeats 1000000 in
theorem New_calls (w : World) : Calls Tryz.prog 28 #[] w (NewPost w) := by
  have HO := Lib.hid (fun W => OptSet_calls W)
  have hmk : ∀ W : World, Sem.run Tryz.prog (Instr.makeMap 83 none) W = .ok (.map (some W.heap.size)) (W.alloc (.map #[] 0)) := fun W => by kernel_rfl
  go_enter Tryz.func28, Tryz.ntmps28
  go_wp2_with fail
  refine (HO.out _).mono ?_
  rintro e w1 ⟨rfl, rfl⟩
  go_wp2
  go_ret
  refine ⟨w.heap.size + 1, w.heap.size, rfl, ?_, by omega, below_alloc' (below_alloc' (Below.refl _ _) _) _⟩
  have := Blk.new (w.alloc (.map #[] 0)) 101 #[.int .u64 0, .slice none 0 0, .pointer none, .pointer none, .pointer none, .map (some w.heap.size)]
  rwa [show (w.alloc (.map #[] 0)).heap.size = w.heap.size + 1 from by simp] at this
def SetYes (w0 : World) (g m n : Nat) (L : List ByteArray) (e : Ending) (w' : World) : Prop :=
  (∃ u, e = .returned u) ∧ Below w0.heap.size w0 w' ∧ ∃ a c, Tok w' g (.slice (some a) n c) m ∧ SL w' (some a) n L
def SetNo (w0 : World) (g m : Nat) (e : Ending) (w' : World) : Prop := (∃ u, e = .returned u) ∧ Below w0.heap.size w0 w' ∧ Tok w' g (.slice none 0 0) m
set_option maxRecDepth 100000 in
set_option maxHeartbeats 2000000 in
theorem setNoLock_text (w0 w : World) (g m : Nat) (s : ByteArray) (hB : Below w0.heap.size w0 w) (hg : w0.heap.size ≤ g) (ht : Tok w g (.slice none 0 0) m) :
    Calls Tryz.prog 146 #[.pointer (some ⟨g, 0, none⟩), .string ⟨#[97, 117, 100]⟩, .iface 9 (.string s)] w (SetYes w0 g m 1 [s]) := by
  have HA := Lib.hid (Accept_text (w.alloc (.cells #[.slice none 0 0] 52)) w.heap.size s (Blk.new w _ _))
  have HT := Lib.hid (Blk.alloc ht (.cells #[.slice none 0 0] 52))
  have HLT := Lib.hid (Blk.lt ht)
  have HB := Lib.hid (And.intro (below_alloc' hB (.cells #[.slice none 0 0] 52)) (And.intro hB.size hg))
  clear ht hB hg
  go_enter Tryz.func146, Tryz.ntmps146
  go_wp2_with fail
  refine HA.out.mono ?_
  rintro e w1 ⟨rfl, hg1, a, c, hb1, hs1, hne, hab⟩
  have hc1 : w1.cell? ⟨w.heap.size, 0, none⟩ = some (.slice (some a) 1 c) := by rw [hb1.cell]; rfl
  have ht1 : Tok w1 g (.slice none 0 0) m := HT.out.grown hg1 (by intro e; have := HLT.out; have e2 : g = w.heap.size := Option.some.inj e; omega)
  have hc2 : w1.cell? ⟨g, 1, none⟩ = some (.slice none 0 0) := by rw [Blk.cell ht1]; rfl
  have hf2 : w1.frozen? ⟨g, 1, none⟩ = false := Blk.frozen ht1 1
  have HT1 := Lib.hid ht1
  have HS1 := Lib.hid (And.intro hs1 (show a.block ≠ g by have := HLT.out; simp at hab; omega))
  have HB1 := Lib.hid (HB.out.1.grown hg1 (by have := HB.out.2.1; simp; omega) (by intro j hj; cases hj; exact HB.out.2.1))
  clear ht1 hs1 hne hab hb1 hg1 HA
  go_wp2
  go_ret
  have hst := setCell_grown w1 ⟨g, 1, none⟩ (.slice (some a) 1 c)
  exact ⟨⟨_, rfl⟩, HB1.out.grown hst HB1.out.size (by intro j hj; cases hj; exact HB.out.2.2), a, c, HT1.out.set_ 1 _, HS1.out.1.grown hst HS1.out.2⟩
set_option maxRecDepth 100000 in
set_option maxHeartbeats 2000000 in
theorem setNoLock_list (w0 w : World) (g m : Nat) (a : Addr) (n ca : Nat) (l : List ByteArray) (hB : Below w0.heap.size w0 w) (hg : w0.heap.size ≤ g) (ht : Tok w g (.slice none 0 0) m) (hl : SL w (some a) n l) (hag : a.block ≠ g) (hab : a.block < w.heap.size) :
    Calls Tryz.prog 146 #[.pointer (some ⟨g, 0, none⟩), .string ⟨#[97, 117, 100]⟩, .iface 23 (.slice (some a) n ca)] w (SetYes w0 g m n l) := by
  have HA := Lib.hid (Accept_list (w.alloc (.cells #[.slice none 0 0] 52)) w.heap.size a n ca l (Blk.new w _ _) (hl.below (below_alloc' (Below.refl w.heap.size w) _) (Nat.le_refl _)) (by omega))
  have HT := Lib.hid (Blk.alloc ht (.cells #[.slice none 0 0] 52))
  have HLT := Lib.hid (Blk.lt ht)
  have HB := Lib.hid (And.intro (below_alloc' hB (.cells #[.slice none 0 0] 52)) (And.intro hB.size hg))
  have HAG := Lib.hid hag
  clear ht hB hg hl hag hab
  go_enter Tryz.func146, Tryz.ntmps146
  go_wp2_with fail
  refine HA.out.mono ?_
  rintro e w1 ⟨rfl, hg1, a', c, hb1, hs1, hne, hab⟩
  subst hab
  have hc1 : w1.cell? ⟨w.heap.size, 0, none⟩ = some (.slice (some a') n c) := by rw [hb1.cell]; rfl
  have ht1 : Tok w1 g (.slice none 0 0) m := HT.out.grown hg1 (by intro e; have := HLT.out; have e2 : g = w.heap.size := Option.some.inj e; omega)
  have hc2 : w1.cell? ⟨g, 1, none⟩ = some (.slice none 0 0) := by rw [Blk.cell ht1]; rfl
  have hf2 : w1.frozen? ⟨g, 1, none⟩ = false := Blk.frozen ht1 1
  have HT1 := Lib.hid ht1
  have HS1 := Lib.hid hs1
  have HB1 := Lib.hid (HB.out.1.grown hg1 (by have := HB.out.2.1; simp; omega) (by intro j hj; cases hj; exact HB.out.2.1))
  clear ht1 hs1 hne hb1 hg1 HA
  go_wp2
  go_ret
  have hst := setCell_grown w1 ⟨g, 1, none⟩ (.slice (some a') n c)
  exact ⟨⟨_, rfl⟩, HB1.out.grown hst HB1.out.size (by intro j hj; cases hj; exact HB.out.2.2), a', c, HT1.out.set_ 1 _, HS1.out.grown hst HAG.out⟩
set_option maxRecDepth 100000 in
set_option maxHeartbeats 2000000 in
theorem setNoLock_other (w0 w : World) (g m : Nat) (v : Value) (hv : IsOther v) (hB : Below w0.heap.size w0 w) (hg : w0.heap.size ≤ g) (ht : Tok w g (.slice none 0 0) m) :
    Calls Tryz.prog 146 #[.pointer (some ⟨g, 0, none⟩), .string ⟨#[97, 117, 100]⟩, v] w (SetNo w0 g m) := by
  have HA := Lib.hid (Accept_other (w.alloc (.cells #[.slice none 0 0] 52)) w.heap.size v hv)
  have HT := Lib.hid (Blk.alloc ht (.cells #[.slice none 0 0] 52))
  have HB := Lib.hid (below_alloc' hB (.cells #[.slice none 0 0] 52))
  have HE := Lib.hid (fun W s => errNew_calls W s)
  clear ht hB hv
  go_enter Tryz.func146, Tryz.ntmps146
  go_wp2_with fail
  refine HA.out.mono ?_
  rintro e w1 ⟨⟨T, u, rfl⟩, hB1⟩
  have ht1 := HT.out.below hB1 HT.out.lt
  have HB1 := Lib.hid (HB.out.trans (hB1.mono HB.out.size))
  clear hB1
  go_wp2_with fail
  refine (HE.out _ _).mono ?_
  rintro e w2 ⟨⟨T2, u2, rfl⟩, hB2⟩
  have HT2 := Lib.hid (Blk.below ht1 hB2 ht1.lt)
  have HB2 := Lib.hid (HB1.out.trans (hB2.mono HB1.out.size))
  clear ht1 hB2
  go_wp2
  go_ret
  exact ⟨⟨_, rfl⟩, HB2.out, HT2.out⟩
def ValText (w : World) (t : ByteArray) (e : Ending) (w' : World) : Prop := e = .returned (.iface 9 (.string t)) ∧ Below w.heap.size w w'
theorem value_text (w : World) (t : ByteArray) (b : Bool) (z : Int) (A : Option Addr) (n c : Nat) (l : List ByteArray) (h : SL w A n l) (hn : n ≤ 100000) :
    Calls Tryz.prog 19 #[.agg #[.int .i64 0, .string t, .bool b, .int .i32 z, .slice A n c]] w (ValText w t) := (value_calls w 0 t b z A n c l h hn).mono fun e w' h => by
  obtain ⟨hB, ⟨_, he⟩ | ⟨h3, _⟩ | ⟨h0, _⟩⟩ := h
  · exact ⟨he, hB⟩
  · exact absurd h3 (by decide)
  · exact absurd rfl h0
def ValList (w : World) (n : Nat) (l : List ByteArray) (e : Ending) (w' : World) : Prop := ∃ a c, e = .returned (.iface 23 (.slice (some a) n c)) ∧ SL w' (some a) n l ∧ w.heap.size ≤ a.block ∧ a.block < w'.heap.size ∧ Below w.heap.size w w'
theorem value_list (w : World) (t : ByteArray) (b : Bool) (z : Int) (A : Option Addr) (n c : Nat) (l : List ByteArray) (h : SL w A n l) (hn : n ≤ 100000) :
    Calls Tryz.prog 19 #[.agg #[.int .i64 3, .string t, .bool b, .int .i32 z, .slice A n c]] w (ValList w n l) := (value_calls w 3 t b z A n c l h hn).mono fun e w' h => by
  obtain ⟨hB, ⟨h0, _⟩ | ⟨_, a, c, he, h1, h2, h3⟩ | ⟨_, h3, _⟩⟩ := h
  · exact absurd h0 (by decide)
  · exact ⟨a, c, he, h1, h2, h3, hB⟩
  · exact absurd rfl h3
def ValOther (w : World) (e : Ending) (w' : World) : Prop := ∃ v, e = .returned v ∧ IsOther v ∧ Below w.heap.size w w'
theorem value_other (w : World) (k : Int) (t : ByteArray) (b : Bool) (z : Int) (A : Option Addr) (n c : Nat) (l : List ByteArray) (h : SL w A n l) (hn : n ≤ 100000) (h0 : k ≠ 0) (h3 : k ≠ 3) :
    Calls Tryz.prog 19 #[.agg #[.int .i64 k, .string t, .bool b, .int .i32 z, .slice A n c]] w (ValOther w) := (value_calls w k t b z A n c l h hn).mono fun e w' h => by
  obtain ⟨hB, ⟨h0', _⟩ | ⟨h3', _⟩ | ⟨_, _, v, he, ho⟩⟩ := h
  · exact absurd h0' h0
  · exact absurd h3' h3
  · exact ⟨v, he, ho, hB⟩
theorem five_cells {w : World} {g : Nat} {T : TypeId} {a b c d e : Value} (h : Blk w g T #[a, b, c, d, e]) : w.cell? ⟨g, 0, none⟩ = some a ∧ w.cell? ⟨g, 1, none⟩ = some b ∧ w.cell? ⟨g, 2, none⟩ = some c ∧ w.cell? ⟨g, 3, none⟩ = some d ∧ w.cell? ⟨g, 4, none⟩ = some e :=
  ⟨by rw [h.cell]; rfl, by rw [h.cell]; rfl, by rw [h.cell]; rfl, by rw [h.cell]; rfl, by rw [h.cell]; rfl⟩
theorem SClone_nil (w : World) : Calls Tryz.prog 20 #[.slice none 0 0] w fun e w' => e = .returned (.slice none 0 0) ∧ w = w' := by
  have hnil := fun W : World => Lib.run_eql_slice_nil (P := Tryz.prog) W 23 9 none 0 0 0 0 Tryz.underlying23
  go_enter Tryz.func20, Tryz.ntmps20
  go_wp2
  go_ret
  exact ⟨rfl, rfl⟩
theorem Set_calls (w : World) (g : Nat) (s : ByteArray) (v : Value) (Q : Ending → World → Prop) (h : Calls Tryz.prog 146 #[.pointer (some ⟨g, 0, none⟩), .string s, v] w Q) (hq : ∀ e w', Q e w' → ∃ u, e = .returned u) :
    Calls Tryz.prog 144 #[.pointer (some ⟨g, 0, none⟩), .string s, v] w Q := by
  have HA := Lib.hid h
  have HQ := Lib.hid hq
  clear h hq
  go_enter Tryz.func144, Tryz.ntmps144
  go_wp2_with fail
  refine HA.out.mono ?_
  intro e w1 h1
  obtain ⟨u, rfl⟩ := HQ.out e w1 h1
  have H1 := Lib.hid h1
  clear h1
  go_wp2
  exact H1.out
end Go.Proofs.YtlahgmfpdfblkaaGreat.Cl
