/- Walks of StringList.Accept, impl.Accepted, jwt.New, Set of "aud", Audience, impl.Audience, claimAwake; the conditions are on sizes alone. -/
import Derived.Test.YtlahgmfpdfblkaaGreatClStr
import Derived.Deep.RegionHeld3
set_option linter.unusedVariables false
set_option linter.unusedSimpArgs false
namespace Go.Proofs.YtlahgmfpdfblkaaGreat.Cl
open Go.RowKit Go.Proofs.YtlahgmfpdfblkaaGreat.K
theorem SL.grown {w w' : World} {a : Addr} {n : Nat} {l : List ByteArray} {g : Nat} (h : SL w (some a) n l) (hg : w.grownBy w' (some g)) (hne : a.block ≠ g) : SL w' (some a) n l :=
  ⟨h.1, fun hn => by
    obtain ⟨ad, e, hl, hc⟩ := h.2 hn
    cases e
    exact ⟨a, rfl, Nat.lt_of_lt_of_le hl hg.size, fun j u hu => (World.cell?_of_block (hg.block (a.add j).block (by rw [block_of_add]; exact hl) (by rw [block_of_add]; intro e; exact hne (by injection e)))).trans (hc j u hu)⟩⟩
theorem ta_text (s : ByteArray) (W : World) : Sem.run Tryz.prog (Instr.typeAssert (.iface 9 (.string s)) 20 9 true) W = .ok (.tuple #[.string s, .bool true]) W := by kernel_rfl
theorem ta_list1 (A : Option Addr) (n c : Nat) (W : World) : Sem.run Tryz.prog (Instr.typeAssert (.iface 23 (.slice A n c)) 20 9 true) W = .ok (.tuple #[.string ByteArray.empty, .bool false]) W := by kernel_rfl
theorem ta_list2 (A : Option Addr) (n c : Nat) (W : World) : Sem.run Tryz.prog (Instr.typeAssert (.iface 23 (.slice A n c)) 20 23 true) W = .ok (.tuple #[.slice A n c, .bool true]) W := by kernel_rfl
theorem ta_nil1 (W : World) : Sem.run Tryz.prog (Instr.typeAssert .nilIface 20 9 true) W = .ok (.tuple #[.string ByteArray.empty, .bool false]) W := by kernel_rfl
theorem ta_nil2 (W : World) : Sem.run Tryz.prog (Instr.typeAssert .nilIface 20 23 true) W = .ok (.tuple #[.slice none 0 0, .bool false]) W := by kernel_rfl
theorem ta_nil3 (W : World) : Sem.run Tryz.prog (Instr.typeAssert .nilIface 20 63 true) W = .ok (.tuple #[.slice none 0 0, .bool false]) W := by kernel_rfl
theorem ta_b1 (b : Bool) (W : World) : Sem.run Tryz.prog (Instr.typeAssert (.iface 4 (.bool b)) 20 9 true) W = .ok (.tuple #[.string ByteArray.empty, .bool false]) W := by kernel_rfl
theorem ta_b2 (b : Bool) (W : World) : Sem.run Tryz.prog (Instr.typeAssert (.iface 4 (.bool b)) 20 23 true) W = .ok (.tuple #[.slice none 0 0, .bool false]) W := by kernel_rfl
theorem ta_b3 (b : Bool) (W : World) : Sem.run Tryz.prog (Instr.typeAssert (.iface 4 (.bool b)) 20 63 true) W = .ok (.tuple #[.slice none 0 0, .bool false]) W := by kernel_rfl
theorem ta_f1 (f : Value) (W : World) : Sem.run Tryz.prog (Instr.typeAssert (.iface 65 f) 20 9 true) W = .ok (.tuple #[.string ByteArray.empty, .bool false]) W := by kernel_rfl
theorem ta_f2 (f : Value) (W : World) : Sem.run Tryz.prog (Instr.typeAssert (.iface 65 f) 20 23 true) W = .ok (.tuple #[.slice none 0 0, .bool false]) W := by kernel_rfl
theorem ta_f3 (f : Value) (W : World) : Sem.run Tryz.prog (Instr.typeAssert (.iface 65 f) 20 63 true) W = .ok (.tuple #[.slice none 0 0, .bool false]) W := by kernel_rfl
def AccPost (w : World) (g : Nat) (n : Nat) (L : List ByteArray) (Q : Addr → Prop) (e : Ending) (w' : World) : Prop :=
  e = .returned .nilIface ∧ w.grownBy w' (some g) ∧ ∃ a c, Blk w' g 52 #[.slice (some a) n c] ∧ SL w' (some a) n L ∧ a.block ≠ g ∧ Q a
set_option maxRecDepth 100000 in
set_option maxHeartbeats 1000000 in
theorem Accept_text (w : World) (g : Nat) (s : ByteArray) (hb : Blk w g 52 #[.slice none 0 0]) :
    Calls Tryz.prog 18 #[.pointer (some ⟨g, 0, none⟩), .iface 9 (.string s)] w (AccPost w g 1 [s] fun a => w.heap.size ≤ a.block) := by
  have hb1 : Blk (w.alloc (.cells #[.string s] 9)) g 52 #[.slice none 0 0] := hb.alloc _
  have hc1 : (w.alloc (.cells #[.string s] 9)).cell? ⟨g, 0, none⟩ = some (.slice none 0 0) := by rw [hb1.cell]; rfl
  have hf1 : (w.alloc (.cells #[.string s] 9)).frozen? ⟨g, 0, none⟩ = false := hb1.frozen 0
  have HB1 := Lib.hid hb1
  have HLT := Lib.hid hb.lt
  have hgr : w.grownBy (w.alloc (.cells #[.string s] 9)) (some g) := World.grownBy_alloc w _ _
  have HGR := Lib.hid hgr
  have hsl : SL (w.alloc (.cells #[.string s] 9)) (some ⟨w.heap.size, 0, none⟩) 1 [s] := reads_lit w 1 1 [.string s] #[.string s] rfl rfl 9
  have HSL := Lib.hid hsl
  clear hb1 hb hgr hsl
  have hta := ta_text s
  go_enter Tryz.func18, Tryz.ntmps18
  go_wp2
  go_ret
  have hst := setCell_grown (w.alloc (.cells #[.string s] 9)) ⟨g, 0, none⟩ (.slice (some ⟨w.heap.size, 0, none⟩) 1 1)
  exact ⟨rfl, grown_trans HGR.out hst, ⟨w.heap.size, 0, none⟩, 1, HB1.out.set_ 0 _, HSL.out.grown hst (by have := HLT.out; show w.heap.size ≠ g; omega), by have := HLT.out; show w.heap.size ≠ g; omega, Nat.le_refl _⟩
set_option maxRecDepth 100000 in
set_option maxHeartbeats 1000000 in
theorem Accept_list (w : World) (g : Nat) (a : Addr) (n c : Nat) (L : List ByteArray) (hb : Blk w g 52 #[.slice none 0 0]) (hl : SL w (some a) n L) (hne : a.block ≠ g) :
    Calls Tryz.prog 18 #[.pointer (some ⟨g, 0, none⟩), .iface 23 (.slice (some a) n c)] w (AccPost w g n L fun a' => a' = a) := by
  have hc1 : w.cell? ⟨g, 0, none⟩ = some (.slice none 0 0) := by rw [hb.cell]; rfl
  have hf1 : w.frozen? ⟨g, 0, none⟩ = false := hb.frozen 0
  have HB1 := Lib.hid hb
  have HSL := Lib.hid hl
  have HNE := Lib.hid hne
  clear hb hl hne
  have hta1 := ta_list1 (some a) n c
  have hta2 := ta_list2 (some a) n c
  go_enter Tryz.func18, Tryz.ntmps18
  go_wp2
  go_ret
  have hst := setCell_grown w ⟨g, 0, none⟩ (.slice (some a) n c)
  exact ⟨rfl, hst, a, c, HB1.out.set_ 0 _, HSL.out.grown hst HNE.out, HNE.out, rfl⟩
def IsOther (v : Value) : Prop := v = .nilIface ∨ (∃ b, v = .iface 4 (.bool b)) ∨ ∃ f, v = .iface 65 f
def ErrPost (w : World) (e : Ending) (w' : World) : Prop := (∃ T u, e = .returned (.iface T u)) ∧ Below w.heap.size w w'
set_option maxRecDepth 100000 in
set_option maxHeartbeats 1000000 in
theorem errNew_calls (w : World) (s : ByteArray) : Calls Tryz.prog 24 #[.string s] w (ErrPost w) := by
  go_enter Tryz.func24, Tryz.ntmps24
  go_wp2
  go_ret
  exact ⟨⟨_, _, rfl⟩, below_alloc' (Below.refl _ _) _⟩
set_option maxRecDepth 100000 in
set_option maxHeartbeats 1000000 in
theorem Accept_other (w : World) (g : Nat) (v : Value) (hv : IsOther v) :
    Calls Tryz.prog 18 #[.pointer (some ⟨g, 0, none⟩), v] w (ErrPost w) := by
  have HE := Lib.hid (fun s => errNew_calls w s)
  rcases hv with rfl | ⟨b, rfl⟩ | ⟨f, rfl⟩
  · have q1 := ta_nil1; have q2 := ta_nil2; have q3 := ta_nil3
    go_enter Tryz.func18, Tryz.ntmps18
    go_wp2_with fail
    refine (HE.out _).mono ?_
    rintro e w1 ⟨⟨T, u, rfl⟩, hB⟩
    have HB := Lib.hid hB
    clear hB
    go_wp2
    go_ret
    exact ⟨⟨_, _, rfl⟩, HB.out⟩
  · have q1 := ta_b1 b; have q2 := ta_b2 b; have q3 := ta_b3 b
    go_enter Tryz.func18, Tryz.ntmps18
    go_wp2_with fail
    refine (HE.out _).mono ?_
    rintro e w1 ⟨⟨T, u, rfl⟩, hB⟩
    have HB := Lib.hid hB
    clear hB
    go_wp2
    go_ret
    exact ⟨⟨_, _, rfl⟩, HB.out⟩
  · have q1 := ta_f1 f; have q2 := ta_f2 f; have q3 := ta_f3 f
    go_enter Tryz.func18, Tryz.ntmps18
    go_wp2_with fail
    refine (HE.out _).mono ?_
    rintro e w1 ⟨⟨T, u, rfl⟩, hB⟩
    have HB := Lib.hid hB
    clear hB
    go_wp2
    go_ret
    exact ⟨⟨_, _, rfl⟩, HB.out⟩
end Go.Proofs.YtlahgmfpdfblkaaGreat.Cl
