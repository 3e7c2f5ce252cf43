import Derived.Test.YtapjbdigpleekaaGreatK
import Derived.Test.YtapjbdigpleekaaGreatProg
import Derived.Lib.LazyBuf
import Derived.Great.Walk
import Derived.StillTailTactics
import Derived.Deep.RegionHeld3
import Derived.Deep.Cut
import Derived.Deep.CutBlock
import Derived.Deep.CutRange
import Derived.Deep.DeepCutAuto
import Derived.MapFrom
/- Walks of slices.Clone and slices.Equal over strings, impl.value, StringList.Accept; the conditions are on sizes alone. -/
set_option linter.unusedVariables false
set_option linter.unusedSimpArgs false
namespace Go.Proofs.YtapjbdigpleekaaGreat.Cl
open Go.RowKit Go.Proofs.YtapjbdigpleekaaGreat.K
def strs (l : List ByteArray) : List Value := l.map Value.string
theorem strs_one (l : List ByteArray) : ∀ u ∈ strs l, u.oneCell' = true := by
  intro u hu
  obtain ⟨s, _, rfl⟩ := List.mem_map.1 hu
  rfl
theorem strs_len (l : List ByteArray) : (strs l).length = l.length := by simp [strs]
theorem info_str : (Tryz.prog.info? 9).map (fun i => (i.zero, i.size, i.bytes)) = some (some (.string ByteArray.empty), 1, 16) := by kernel_rfl
/-- A slice of strings that reads as l. -/
def SL (w : World) (A : Option Addr) (n : Nat) (l : List ByteArray) : Prop := Reads w 1 A n (strs l)
theorem str_ne {x y : ByteArray} (h : x ≠ y) : (x.toList == y.toList) = false := by
  rw [beq_eq_false_iff_ne]
  intro e
  rw [ByteArray.toList_eq, ByteArray.toList_eq] at e
  exact h (Go.WideShapes.bytes_inj e)
theorem SL.len {w : World} {A : Option Addr} {n : Nat} {l : List ByteArray} (h : SL w A n l) : n = l.length := by have := h.1; simp [strs] at this; omega
theorem SL.below {w w' : World} {A : Option Addr} {n : Nat} {l : List ByteArray} {B : Nat} (h : SL w A n l) (hb : Below B w w') (hB : w.heap.size ≤ B) : SL w' A n l := Reads.below h hb hB
theorem SL.at_ {w : World} {A : Option Addr} {n k : Nat} {l : List ByteArray} (h : SL w A n l) (hk : k < l.length) : ∃ ad, A = some ad ∧ w.cell? (ad.add k) = some (.string l[k]) := by
  have hn := h.len
  obtain ⟨ad, u, rfl, hu, hc⟩ := Reads.at_ h (show k < n by omega)
  refine ⟨ad, rfl, ?_⟩
  rw [hc, ← hu]
  simp [strs, hk]
theorem below_then {w w1 w2 : World} (h : Below w.heap.size w w1) (k : Below w1.heap.size w1 w2) : Below w.heap.size w w2 := h.trans (k.mono h.size)
def ClonePost (w : World) (A : Option Addr) (n : Nat) (l : List ByteArray) (e : Ending) (w' : World) : Prop :=
  ∃ A' c', e = .returned (.slice A' n c') ∧ SL w' A' n l ∧ Below w.heap.size w w'
set_option maxHeartbeats 400000 in
theorem SClone_calls (w : World) (A : Option Addr) (l : List ByteArray) (n c : Nat) (h : SL w A n l) (hn : n ≤ 100000) :
    Calls Tryz.prog 50 #[.slice A n c] w (ClonePost w A n l) := by
  obtain ⟨i0, hi, hz0, hz1, hz2⟩ := info_parts info_str
  have hnil := fun W : World => Lib.run_eql_slice_nil (P := Tryz.prog) W 23 9 A n c 0 0 Tryz.underlying23
  rcases A with _ | ad
  · have h0 : n = 0 := by
      rcases Nat.eq_zero_or_pos n with h0 | h0
      · exact h0
      · obtain ⟨_, h1, _⟩ := h.2 h0
        cases h1
    subst h0
    have HL := Lib.hid h
    clear h
    go_enter Tryz.func50, Tryz.ntmps50
    go_wp2
    go_ret
    exact ⟨none, 0, rfl, HL.out, Below.refl _ _⟩
  · go_enter Tryz.func50, Tryz.ntmps50
    go_wp2_with (first
      | (at_builtin; refine wpList_append_any _ rfl (.tmp 5) (.tmp 6) 23 rfl w.heap.size 9 i0 (.string ByteArray.empty) 1 16 Tryz.underlying23 hi hz0 hz1 hz2 rfl (by decide) _ 0 [] rfl (own_empty w 9 1) (some ad) n c (strs l) rfl ?hr (strs_one l) ?h63 ?hb ?hbase ?_))
    case hr => exact h.below ((Below.refl w.heap.size w).alloc (Nat.le_refl _) _) (Nat.le_refl _)
    case h63 => unfold maxLen; omega
    case hb => omega
    case hbase => simp
    · intro v' w1 hown hg hat
      go_wp2
      go_ret
      obtain ⟨A', c', rfl, _, hr⟩ := own_form hown
      exact ⟨A', c', rfl, hr, ((Below.refl w.heap.size w).alloc (Nat.le_refl _) _).grown hg (by simp) (by intro k hk; simp [Value.ownBlock] at hk; omega)⟩
set_option maxHeartbeats 1000000 in
theorem SEqual_calls (w : World) (A B : Option Addr) (l m : List ByteArray) (n c k d : Nat) (h : SL w A n l) (h' : SL w B k m) (hn : n ≤ 100000) (hk : k ≤ 100000) (r : Bool) (hr : decide (l = m) = r) :
    Calls Tryz.prog 60 #[.slice A n c, .slice B k d] w fun e w' => e = .returned (.bool r) ∧ Below w.heap.size w w' := by
  have HLN := Lib.hid (And.intro h.len h'.len)
  have HR := Lib.hid hr
  clear hr
  by_cases hnk : n = k
  · subst hnk
    go_enter Tryz.func60, Tryz.ntmps60
    go_wp2
    go_loopg [13] n (fun q u13 wr => ∃ j : Nat, q + j = n ∧ u13 = .int .i64 j ∧ Hid (l.take j = m.take j) ∧ Hid (Below w.heap.size w wr))
    case atStart => exact ⟨0, rfl, rfl, by simp [Hid], Below.refl _ _⟩
    case round =>
      obtain ⟨j, hqj, rfl, hE, HB⟩ := hrel
      by_cases hj : j < n
      · have hjl : j < l.length := by have := HLN.out.1; omega
        have hjm : j < m.length := by have := HLN.out.2; omega
        obtain ⟨ad, rfl, hc1⟩ := (h.below HB.out (Nat.le_refl _)).at_ hjl
        obtain ⟨bd, rfl, hc2⟩ := (h'.below HB.out (Nat.le_refl _)).at_ hjm
        obtain ⟨x, hx⟩ : ∃ x, x = l[j] := ⟨_, rfl⟩
        obtain ⟨y, hy⟩ : ∃ y, y = m[j] := ⟨_, rfl⟩
        rw [← hx] at hc1
        rw [← hy] at hc2
        have HX := Lib.hid hx
        have HY := Lib.hid hy
        clear hx hy
        by_cases hxy : x = y
        · subst hxy
          have HXY := Lib.hid (HX.out.symm.trans HY.out)
          clear HX HY
          go_wp2_with (go_quiet (fail))
          go_roundg (n - (j + 1))
          case measure => omega
          case rel =>
            refine ⟨j + 1, by omega, by go_num, ?_, Go.Proofs.YtapjbdigpleekaaGreat.K.below_drewN HB.out _⟩
            show _ = _
            rw [List.take_succ_eq_append_getElem hjl, List.take_succ_eq_append_getElem hjm, hE.out, HXY.out]
        · have HF : Hid (r = false) := Lib.hid (by
            rw [← HR.out]
            refine decide_eq_false fun e => hxy ?_
            subst e
            rw [HX.out, HY.out])
          clear HX HY
          have hxb : (x.toList == y.toList) = false := str_ne hxy
          go_wp2_with (go_quiet (fail))
          go_ret
          exact ⟨ret_bool HF.out.symm, Go.Proofs.YtapjbdigpleekaaGreat.K.below_drewN HB.out _⟩
      · obtain rfl : j = n := by omega
        have HT : Hid (r = true) := Lib.hid (by
          rw [← HR.out]
          refine decide_eq_true ?_
          have := hE.out
          rwa [List.take_of_length_le (by have := HLN.out.1; omega), List.take_of_length_le (by have := HLN.out.2; omega)] at this)
        go_wp2
        go_ret
        exact ⟨ret_bool HT.out.symm, HB.out⟩
  · have HF : Hid (r = false) := Lib.hid (by
      rw [← HR.out]
      refine decide_eq_false fun e => hnk ?_
      have := HLN.out
      subst e
      omega)
    have hb : ((n : Int) != (k : Int)) = true := by rw [bne_iff_ne]; omega
    have hnki : ¬ (n : Int) = (k : Int) := by omega
    go_enter Tryz.func60, Tryz.ntmps60
    go_wp2
    go_ret
    exact ⟨ret_bool HF.out.symm, Below.refl _ _⟩
/-- A value as data: its five fields. -/
abbrev plainV (k : Int) (t : ByteArray) (b : Bool) (z : Int) (A : Option Addr) (n c : Nat) : Value := .agg #[.int .i64 k, .string t, .bool b, .int .i32 z, .slice A n c]
/-- What Value gives for a text, for a list, for anything else. -/
def VPost (w : World) (k : Int) (t : ByteArray) (n : Nat) (l : List ByteArray) (e : Ending) (w' : World) : Prop :=
  Below w.heap.size w w' ∧ ((k = 0 ∧ e = .returned (.iface 9 (.string t))) ∨ (k = 3 ∧ ∃ a c, e = .returned (.iface 23 (.slice (some a) n c)) ∧ SL w' (some a) n l ∧ w.heap.size ≤ a.block ∧ a.block < w'.heap.size) ∨
    (k ≠ 0 ∧ k ≠ 3 ∧ ∃ v, e = .returned v ∧ (v = .nilIface ∨ (∃ b, v = .iface 4 (.bool b)) ∨ ∃ f, v = .iface 174 f)))
set_option maxHeartbeats 1000000 in
theorem value_calls (w : World) (k : Int) (t : ByteArray) (b : Bool) (z : Int) (A : Option Addr) (n c : Nat) (l : List ByteArray) (h : SL w A n l) (hn : n ≤ 100000) :
    Calls Tryz.prog 84 #[plainV k t b z A n c] w (VPost w k t n l) := by
  unfold plainV
  have HB := Lib.hid (below_alloc' (Below.refl w.heap.size w) (.cells #[.int .i64 k, .string t, .bool b, .int .i32 z, .slice A n c] 43))
  have HL := Lib.hid h
  clear h
  by_cases h0 : k = 0
  · subst h0
    go_enter Tryz.func84, Tryz.ntmps84
    go_wp2
    go_ret
    exact ⟨HB.out, Or.inl ⟨rfl, rfl⟩⟩
  have b0 : (k == 0) = false := by rw [beq_eq_false_iff_ne]; exact h0
  by_cases h1 : k = 1
  · subst h1
    go_enter Tryz.func84, Tryz.ntmps84
    go_wp2
    go_ret
    exact ⟨HB.out, Or.inr (Or.inr ⟨by decide, by decide, _, rfl, Or.inr (Or.inl ⟨_, rfl⟩)⟩)⟩
  have b1 : (k == 1) = false := by rw [beq_eq_false_iff_ne]; exact h1
  by_cases h2 : k = 2
  · subst h2
    go_enter Tryz.func84, Tryz.ntmps84
    go_wp2
    go_ret
    exact ⟨HB.out, Or.inr (Or.inr ⟨by decide, by decide, _, rfl, Or.inr (Or.inr ⟨_, rfl⟩)⟩)⟩
  have b2 : (k == 2) = false := by rw [beq_eq_false_iff_ne]; exact h2
  by_cases h3 : k = 3
  · subst h3
    obtain ⟨i0, hi, hz0, hz1, hz2⟩ := info_parts info_str
    have HO : Hid (World.ownsRow ((w.alloc (.cells #[.int .i64 3, .string t, .bool b, .int .i32 z, .slice A n c] 43)).alloc (.cells #[] 9)) w.heap.size 9 1 (.slice (some ⟨w.heap.size + 1, 0, none⟩) 0 0) 0 []) := Lib.hid (by
      have := own_base (own_empty (w.alloc (.cells #[.int .i64 3, .string t, .bool b, .int .i32 z, .slice A n c] 43)) 9 1) HB.out.size
      rwa [show (w.alloc (.cells #[.int .i64 3, .string t, .bool b, .int .i32 z, .slice A n c] 43)).heap.size = w.heap.size + 1 from by simp] at this)
    have HBB := Lib.hid (below_alloc' HB.out (.cells #[] 9))
    have HL2 := Lib.hid (HL.out.below HBB.out (Nat.le_refl _))
    go_enter Tryz.func84, Tryz.ntmps84
    go_wp2_with (at_builtin; refine wpList_append_any _ rfl (.tmp 23) (.tmp 25) 23 rfl w.heap.size 9 i0 (.string ByteArray.empty) 1 16 Tryz.underlying23 hi hz0 hz1 hz2 rfl (by decide) (.slice (some ⟨w.heap.size + 1, 0, none⟩) 0 0) 0 [] rfl HO.out A n c (strs l) rfl HL2.out (strs_one l) (by unfold maxLen; omega) (by omega) HBB.out.size ?_; intro v3 w3 hown hg hat; rw [Nat.zero_add] at hown; have HO3 := Lib.hid hown; have HAT := Lib.hid hat; have HG := Lib.hid hg; clear hown hg hat)
    obtain ⟨A', c', hv, _, hr⟩ := own_form HO3.out
    have hat := HAT.out
    rw [hv] at hat
    have hbl := fun a (ha : A' = some a) => HO3.out.lt a.block (by rw [hv, ha]; rfl)
    have hs : ∃ a, A' = some a := by
      cases A' with
      | some a => exact ⟨a, rfl⟩
      | none => rcases hat with h | h <;> simp [Value.ownBlock] at h
    obtain ⟨a', rfl⟩ := hs
    have HBL := Lib.hid (hbl a' rfl)
    clear hbl
    have HR := Lib.hid hr
    have HB3 := Lib.hid (HBB.out.grown HG.out HBB.out.size (by intro k hk; simp [Value.ownBlock] at hk; omega))
    clear hr hat HAT HO3
    subst hv
    go_wp2
    go_ret
    exact ⟨HB3.out, Or.inr (Or.inl ⟨rfl, _, _, rfl, HR.out, HBL.out.1, HBL.out.2⟩)⟩
  have b3 : (k == 3) = false := by rw [beq_eq_false_iff_ne]; exact h3
  go_enter Tryz.func84, Tryz.ntmps84
  go_wp2
  go_ret
  exact ⟨HB.out, Or.inr (Or.inr ⟨h0, h3, _, rfl, Or.inl rfl⟩)⟩
end Go.Proofs.YtapjbdigpleekaaGreat.Cl

/- Walks of StringList.Accept, impl.Accepted, jwt.New, Set of "aud", Audience, impl.Audience, claimAwake; the conditions are on sizes alone. -/
set_option linter.unusedVariables false
set_option linter.unusedSimpArgs false
namespace Go.Proofs.YtapjbdigpleekaaGreat.Cl
open Go.RowKit Go.Proofs.YtapjbdigpleekaaGreat.K
theorem SL.grown {w w' : World} {a : Addr} {n : Nat} {l : List ByteArray} {g : Nat} (h : SL w (some a) n l) (hg : w.grownBy w' (some g)) (hne : a.block ≠ g) : SL w' (some a) n l :=
  ⟨h.1, fun hn => by
    obtain ⟨ad, e, hl, hc⟩ := h.2 hn
    cases e
    exact ⟨a, rfl, Nat.lt_of_lt_of_le hl hg.size, fun j u hu => (World.cell?_of_block (hg.block (a.add j).block (by rw [block_of_add]; exact hl) (by rw [block_of_add]; intro e; exact hne (by injection e)))).trans (hc j u hu)⟩⟩
theorem ta_text (s : ByteArray) (W : World) : Sem.run Tryz.prog (Instr.typeAssert (.iface 9 (.string s)) 20 9 true) W = .ok (.tuple #[.string s, .bool true]) W := by kernel_rfl
theorem ta_list1 (A : Option Addr) (n c : Nat) (W : World) : Sem.run Tryz.prog (Instr.typeAssert (.iface 23 (.slice A n c)) 20 9 true) W = .ok (.tuple #[.string ByteArray.empty, .bool false]) W := by kernel_rfl
theorem ta_list2 (A : Option Addr) (n c : Nat) (W : World) : Sem.run Tryz.prog (Instr.typeAssert (.iface 23 (.slice A n c)) 20 23 true) W = .ok (.tuple #[.slice A n c, .bool true]) W := by kernel_rfl
theorem ta_nil1 (W : World) : Sem.run Tryz.prog (Instr.typeAssert .nilIface 20 9 true) W = .ok (.tuple #[.string ByteArray.empty, .bool false]) W := by kernel_rfl
theorem ta_nil2 (W : World) : Sem.run Tryz.prog (Instr.typeAssert .nilIface 20 23 true) W = .ok (.tuple #[.slice none 0 0, .bool false]) W := by kernel_rfl
theorem ta_nil3 (W : World) : Sem.run Tryz.prog (Instr.typeAssert .nilIface 20 294 true) W = .ok (.tuple #[.slice none 0 0, .bool false]) W := by kernel_rfl
theorem ta_b1 (b : Bool) (W : World) : Sem.run Tryz.prog (Instr.typeAssert (.iface 4 (.bool b)) 20 9 true) W = .ok (.tuple #[.string ByteArray.empty, .bool false]) W := by kernel_rfl
theorem ta_b2 (b : Bool) (W : World) : Sem.run Tryz.prog (Instr.typeAssert (.iface 4 (.bool b)) 20 23 true) W = .ok (.tuple #[.slice none 0 0, .bool false]) W := by kernel_rfl
theorem ta_b3 (b : Bool) (W : World) : Sem.run Tryz.prog (Instr.typeAssert (.iface 4 (.bool b)) 20 294 true) W = .ok (.tuple #[.slice none 0 0, .bool false]) W := by kernel_rfl
theorem ta_f1 (f : Value) (W : World) : Sem.run Tryz.prog (Instr.typeAssert (.iface 174 f) 20 9 true) W = .ok (.tuple #[.string ByteArray.empty, .bool false]) W := by kernel_rfl
theorem ta_f2 (f : Value) (W : World) : Sem.run Tryz.prog (Instr.typeAssert (.iface 174 f) 20 23 true) W = .ok (.tuple #[.slice none 0 0, .bool false]) W := by kernel_rfl
theorem ta_f3 (f : Value) (W : World) : Sem.run Tryz.prog (Instr.typeAssert (.iface 174 f) 20 294 true) W = .ok (.tuple #[.slice none 0 0, .bool false]) W := by kernel_rfl
def AccPost (w : World) (g : Nat) (n : Nat) (L : List ByteArray) (Q : Addr → Prop) (e : Ending) (w' : World) : Prop :=
  e = .returned .nilIface ∧ w.grownBy w' (some g) ∧ ∃ a c, Blk w' g 203 #[.slice (some a) n c] ∧ SL w' (some a) n L ∧ a.block ≠ g ∧ Q a
set_option maxRecDepth 100000 in
set_option maxHeartbeats 1000000 in
theorem Accept_text (w : World) (g : Nat) (s : ByteArray) (hb : Blk w g 203 #[.slice none 0 0]) :
    Calls Tryz.prog 256 #[.pointer (some ⟨g, 0, none⟩), .iface 9 (.string s)] w (AccPost w g 1 [s] fun a => w.heap.size ≤ a.block) := by
  have hb1 : Blk (w.alloc (.cells #[.string s] 9)) g 203 #[.slice none 0 0] := hb.alloc _
  have hc1 : (w.alloc (.cells #[.string s] 9)).cell? ⟨g, 0, none⟩ = some (.slice none 0 0) := by rw [hb1.cell]; rfl
  have hf1 : (w.alloc (.cells #[.string s] 9)).frozen? ⟨g, 0, none⟩ = false := hb1.frozen 0
  have HB1 := Lib.hid hb1
  have HLT := Lib.hid hb.lt
  have hgr : w.grownBy (w.alloc (.cells #[.string s] 9)) (some g) := World.grownBy_alloc w _ _
  have HGR := Lib.hid hgr
  have hsl : SL (w.alloc (.cells #[.string s] 9)) (some ⟨w.heap.size, 0, none⟩) 1 [s] := reads_lit w 1 1 [.string s] #[.string s] rfl rfl 9
  have HSL := Lib.hid hsl
  clear hb1 hb hgr hsl
  have hta := ta_text s
  go_enter Tryz.func256, Tryz.ntmps256
  go_wp2
  go_ret
  have hst := setCell_grown (w.alloc (.cells #[.string s] 9)) ⟨g, 0, none⟩ (.slice (some ⟨w.heap.size, 0, none⟩) 1 1)
  exact ⟨rfl, grown_trans HGR.out hst, ⟨w.heap.size, 0, none⟩, 1, HB1.out.set_ 0 _, HSL.out.grown hst (by have := HLT.out; show w.heap.size ≠ g; omega), by have := HLT.out; show w.heap.size ≠ g; omega, Nat.le_refl _⟩
set_option maxRecDepth 100000 in
set_option maxHeartbeats 1000000 in
theorem Accept_list (w : World) (g : Nat) (a : Addr) (n c : Nat) (L : List ByteArray) (hb : Blk w g 203 #[.slice none 0 0]) (hl : SL w (some a) n L) (hne : a.block ≠ g) :
    Calls Tryz.prog 256 #[.pointer (some ⟨g, 0, none⟩), .iface 23 (.slice (some a) n c)] w (AccPost w g n L fun a' => a' = a) := by
  have hc1 : w.cell? ⟨g, 0, none⟩ = some (.slice none 0 0) := by rw [hb.cell]; rfl
  have hf1 : w.frozen? ⟨g, 0, none⟩ = false := hb.frozen 0
  have HB1 := Lib.hid hb
  have HSL := Lib.hid hl
  have HNE := Lib.hid hne
  clear hb hl hne
  have hta1 := ta_list1 (some a) n c
  have hta2 := ta_list2 (some a) n c
  go_enter Tryz.func256, Tryz.ntmps256
  go_wp2
  go_ret
  have hst := setCell_grown w ⟨g, 0, none⟩ (.slice (some a) n c)
  exact ⟨rfl, hst, a, c, HB1.out.set_ 0 _, HSL.out.grown hst HNE.out, HNE.out, rfl⟩
def IsOther (v : Value) : Prop := v = .nilIface ∨ (∃ b, v = .iface 4 (.bool b)) ∨ ∃ f, v = .iface 174 f
def ErrPost (w : World) (e : Ending) (w' : World) : Prop := (∃ T u, e = .returned (.iface T u)) ∧ Below w.heap.size w w'
set_option maxRecDepth 100000 in
set_option maxHeartbeats 1000000 in
theorem errNew_calls (w : World) (s : ByteArray) : Calls Tryz.prog 122 #[.string s] w (ErrPost w) := by
  go_enter Tryz.func122, Tryz.ntmps122
  go_wp2
  go_ret
  exact ⟨⟨_, _, rfl⟩, below_alloc' (Below.refl _ _) _⟩
set_option maxRecDepth 100000 in
set_option maxHeartbeats 1000000 in
theorem Accept_other (w : World) (g : Nat) (v : Value) (hv : IsOther v) :
    Calls Tryz.prog 256 #[.pointer (some ⟨g, 0, none⟩), v] w (ErrPost w) := by
  have HE := Lib.hid (fun s => errNew_calls w s)
  rcases hv with rfl | ⟨b, rfl⟩ | ⟨f, rfl⟩
  · have q1 := ta_nil1; have q2 := ta_nil2; have q3 := ta_nil3
    go_enter Tryz.func256, Tryz.ntmps256
    go_wp2_with fail
    refine (HE.out _).mono ?_
    rintro e w1 ⟨⟨T, u, rfl⟩, hB⟩
    have HB := Lib.hid hB
    clear hB
    go_wp2
    go_ret
    exact ⟨⟨_, _, rfl⟩, HB.out⟩
  · have q1 := ta_b1 b; have q2 := ta_b2 b; have q3 := ta_b3 b
    go_enter Tryz.func256, Tryz.ntmps256
    go_wp2_with fail
    refine (HE.out _).mono ?_
    rintro e w1 ⟨⟨T, u, rfl⟩, hB⟩
    have HB := Lib.hid hB
    clear hB
    go_wp2
    go_ret
    exact ⟨⟨_, _, rfl⟩, HB.out⟩
  · have q1 := ta_f1 f; have q2 := ta_f2 f; have q3 := ta_f3 f
    go_enter Tryz.func256, Tryz.ntmps256
    go_wp2_with fail
    refine (HE.out _).mono ?_
    rintro e w1 ⟨⟨T, u, rfl⟩, hB⟩
    have HB := Lib.hid hB
    clear hB
    go_wp2
    go_ret
    exact ⟨⟨_, _, rfl⟩, HB.out⟩
end Go.Proofs.YtapjbdigpleekaaGreat.Cl

/- Walks of impl.Accepted and claimAwake; the conditions are on sizes alone. -/
set_option linter.unusedVariables false
set_option linter.unusedSimpArgs false
namespace Go.Proofs.YtapjbdigpleekaaGreat.Cl
open Go.RowKit Go.Proofs.YtapjbdigpleekaaGreat.K
/-- The list that a value makes. -/
def listOf (k : Int) (t : ByteArray) (l : List ByteArray) : Option (List ByteArray) := if k = 0 then some [t] else if k = 3 then some l else none
def LPost (w : World) (k : Int) (t : ByteArray) (l : List ByteArray) (e : Ending) (w' : World) : Prop :=
  Below w.heap.size w w' ∧ ((∃ L A n c, listOf k t l = some L ∧ e = .returned (.tuple #[.slice A n c, .bool true]) ∧ SL w' A n L) ∨ (listOf k t l = none ∧ e = .returned (.tuple #[.slice none 0 0, .bool false])))
theorem Get_calls (w : World) (A : Option Addr) (n c : Nat) : Calls Tryz.prog 253 #[.slice A n c] w fun e w' => e = .returned (.slice A n c) ∧ w = w' := by
  go_enter Tryz.func253, Tryz.ntmps253
  go_wp2
  go_ret
  exact ⟨rfl, rfl⟩
theorem IsOther.of {v : Value} (h : v = .nilIface ∨ (∃ b, v = .iface 4 (.bool b)) ∨ ∃ f, v = .iface 174 f) : IsOther v := h
theorem lits (w : World) (s : ByteArray) : SL (w.alloc (.cells #[.string s] 9)) (some ⟨w.heap.size, 0, none⟩) 1 [s] := reads_lit w 1 1 [.string s] #[.string s] rfl rfl 9
end Go.Proofs.YtapjbdigpleekaaGreat.Cl

/- Walks of jwt.New, Set of "aud", Audience, impl.Audience; the conditions are on sizes alone. -/
set_option linter.unusedVariables false
set_option linter.unusedSimpArgs false
namespace Go.Proofs.YtapjbdigpleekaaGreat.Cl
open Go.RowKit Go.Proofs.YtapjbdigpleekaaGreat.K
def Tok (w : World) (g : Nat) (S : Value) (m : Nat) : Prop := Blk w g 208 #[.int .u64 0, S, .pointer none, .pointer none, .pointer none, .map (some m)]
set_option maxRecDepth 100000 in
theorem OptSet_calls (w : World) : Calls Tryz.prog 116 #[] w fun e w' => e = .returned (.int .u64 0) ∧ w = w' := by
  go_enter Tryz.func116, Tryz.ntmps116
  go_wp2
  go_ret
  exact ⟨rfl, rfl⟩
def NewPost (w : World) (e : Ending) (w' : World) : Prop := ∃ g m, e = .returned (.iface 206 (.pointer (some ⟨g, 0, none⟩))) ∧ Tok w' g (.slice none 0 0) m ∧ w.heap.size ≤ g ∧ Below w.heap.size w w'
set_option maxRecDepth 100000 in
set_option maxHeartbeats 1000000 in
theorem New_calls (w : World) : Calls Tryz.prog 100 #[] w (NewPost w) := by
  have HO := Lib.hid (fun W => OptSet_calls W)
  have hmk : ∀ W : World, Sem.run Tryz.prog (Instr.makeMap 169 none) W = .ok (.map (some W.heap.size)) (W.alloc (.map #[] 0)) := fun W => by kernel_rfl
  go_enter Tryz.func100, Tryz.ntmps100
  go_wp2_with fail
  refine (HO.out _).mono ?_
  rintro e w1 ⟨rfl, rfl⟩
  go_wp2
  go_ret
  refine ⟨w.heap.size + 1, w.heap.size, rfl, ?_, by omega, below_alloc' (below_alloc' (Below.refl _ _) _) _⟩
  have := Blk.new (w.alloc (.map #[] 0)) 208 #[.int .u64 0, .slice none 0 0, .pointer none, .pointer none, .pointer none, .map (some w.heap.size)]
  rwa [show (w.alloc (.map #[] 0)).heap.size = w.heap.size + 1 from by simp] at this
def SetYes (w0 : World) (g m n : Nat) (L : List ByteArray) (e : Ending) (w' : World) : Prop :=
  (∃ u, e = .returned u) ∧ Below w0.heap.size w0 w' ∧ ∃ a c, Tok w' g (.slice (some a) n c) m ∧ SL w' (some a) n L
def SetNo (w0 : World) (g m : Nat) (e : Ending) (w' : World) : Prop := (∃ u, e = .returned u) ∧ Below w0.heap.size w0 w' ∧ Tok w' g (.slice none 0 0) m
set_option maxRecDepth 100000 in
set_option maxHeartbeats 2000000 in
theorem setNoLock_text (w0 w : World) (g m : Nat) (s : ByteArray) (hB : Below w0.heap.size w0 w) (hg : w0.heap.size ≤ g) (ht : Tok w g (.slice none 0 0) m) :
    Calls Tryz.prog 271 #[.pointer (some ⟨g, 0, none⟩), .string ⟨#[97, 117, 100]⟩, .iface 9 (.string s)] w (SetYes w0 g m 1 [s]) := by
  have HA := Lib.hid (Accept_text (w.alloc (.cells #[.slice none 0 0] 203)) w.heap.size s (Blk.new w _ _))
  have HT := Lib.hid (Blk.alloc ht (.cells #[.slice none 0 0] 203))
  have HLT := Lib.hid (Blk.lt ht)
  have HB := Lib.hid (And.intro (below_alloc' hB (.cells #[.slice none 0 0] 203)) (And.intro hB.size hg))
  clear ht hB hg
  go_enter Tryz.func271, Tryz.ntmps271
  go_wp2_with fail
  refine HA.out.mono ?_
  rintro e w1 ⟨rfl, hg1, a, c, hb1, hs1, hne, hab⟩
  have hc1 : w1.cell? ⟨w.heap.size, 0, none⟩ = some (.slice (some a) 1 c) := by rw [hb1.cell]; rfl
  have ht1 : Tok w1 g (.slice none 0 0) m := HT.out.grown hg1 (by intro e; have := HLT.out; have e2 : g = w.heap.size := Option.some.inj e; omega)
  have hc2 : w1.cell? ⟨g, 1, none⟩ = some (.slice none 0 0) := by rw [Blk.cell ht1]; rfl
  have hf2 : w1.frozen? ⟨g, 1, none⟩ = false := Blk.frozen ht1 1
  have HT1 := Lib.hid ht1
  have HS1 := Lib.hid (And.intro hs1 (show a.block ≠ g by have := HLT.out; simp at hab; omega))
  have HB1 := Lib.hid (HB.out.1.grown hg1 (by have := HB.out.2.1; simp; omega) (by intro j hj; cases hj; exact HB.out.2.1))
  clear ht1 hs1 hne hab hb1 hg1 HA
  go_wp2
  go_ret
  have hst := setCell_grown w1 ⟨g, 1, none⟩ (.slice (some a) 1 c)
  exact ⟨⟨_, rfl⟩, HB1.out.grown hst HB1.out.size (by intro j hj; cases hj; exact HB.out.2.2), a, c, HT1.out.set_ 1 _, HS1.out.1.grown hst HS1.out.2⟩
set_option maxRecDepth 100000 in
set_option maxHeartbeats 2000000 in
theorem setNoLock_list (w0 w : World) (g m : Nat) (a : Addr) (n ca : Nat) (l : List ByteArray) (hB : Below w0.heap.size w0 w) (hg : w0.heap.size ≤ g) (ht : Tok w g (.slice none 0 0) m) (hl : SL w (some a) n l) (hag : a.block ≠ g) (hab : a.block < w.heap.size) :
    Calls Tryz.prog 271 #[.pointer (some ⟨g, 0, none⟩), .string ⟨#[97, 117, 100]⟩, .iface 23 (.slice (some a) n ca)] w (SetYes w0 g m n l) := by
  have HA := Lib.hid (Accept_list (w.alloc (.cells #[.slice none 0 0] 203)) w.heap.size a n ca l (Blk.new w _ _) (hl.below (below_alloc' (Below.refl w.heap.size w) _) (Nat.le_refl _)) (by omega))
  have HT := Lib.hid (Blk.alloc ht (.cells #[.slice none 0 0] 203))
  have HLT := Lib.hid (Blk.lt ht)
  have HB := Lib.hid (And.intro (below_alloc' hB (.cells #[.slice none 0 0] 203)) (And.intro hB.size hg))
  have HAG := Lib.hid hag
  clear ht hB hg hl hag hab
  go_enter Tryz.func271, Tryz.ntmps271
  go_wp2_with fail
  refine HA.out.mono ?_
  rintro e w1 ⟨rfl, hg1, a', c, hb1, hs1, hne, hab⟩
  subst hab
  have hc1 : w1.cell? ⟨w.heap.size, 0, none⟩ = some (.slice (some a') n c) := by rw [hb1.cell]; rfl
  have ht1 : Tok w1 g (.slice none 0 0) m := HT.out.grown hg1 (by intro e; have := HLT.out; have e2 : g = w.heap.size := Option.some.inj e; omega)
  have hc2 : w1.cell? ⟨g, 1, none⟩ = some (.slice none 0 0) := by rw [Blk.cell ht1]; rfl
  have hf2 : w1.frozen? ⟨g, 1, none⟩ = false := Blk.frozen ht1 1
  have HT1 := Lib.hid ht1
  have HS1 := Lib.hid hs1
  have HB1 := Lib.hid (HB.out.1.grown hg1 (by have := HB.out.2.1; simp; omega) (by intro j hj; cases hj; exact HB.out.2.1))
  clear ht1 hs1 hne hb1 hg1 HA
  go_wp2
  go_ret
  have hst := setCell_grown w1 ⟨g, 1, none⟩ (.slice (some a') n c)
  exact ⟨⟨_, rfl⟩, HB1.out.grown hst HB1.out.size (by intro j hj; cases hj; exact HB.out.2.2), a', c, HT1.out.set_ 1 _, HS1.out.grown hst HAG.out⟩
set_option maxRecDepth 100000 in
set_option maxHeartbeats 2000000 in
theorem setNoLock_other (w0 w : World) (g m : Nat) (v : Value) (hv : IsOther v) (hB : Below w0.heap.size w0 w) (hg : w0.heap.size ≤ g) (ht : Tok w g (.slice none 0 0) m) :
    Calls Tryz.prog 271 #[.pointer (some ⟨g, 0, none⟩), .string ⟨#[97, 117, 100]⟩, v] w (SetNo w0 g m) := by
  have HA := Lib.hid (Accept_other (w.alloc (.cells #[.slice none 0 0] 203)) w.heap.size v hv)
  have HT := Lib.hid (Blk.alloc ht (.cells #[.slice none 0 0] 203))
  have HB := Lib.hid (below_alloc' hB (.cells #[.slice none 0 0] 203))
  have HE := Lib.hid (fun W s => errNew_calls W s)
  clear ht hB hv
  go_enter Tryz.func271, Tryz.ntmps271
  go_wp2_with fail
  refine HA.out.mono ?_
  rintro e w1 ⟨⟨T, u, rfl⟩, hB1⟩
  have ht1 := HT.out.below hB1 HT.out.lt
  have HB1 := Lib.hid (HB.out.trans (hB1.mono HB.out.size))
  clear hB1
  go_wp2_with fail
  refine (HE.out _ _).mono ?_
  rintro e w2 ⟨⟨T2, u2, rfl⟩, hB2⟩
  have HT2 := Lib.hid (Blk.below ht1 hB2 ht1.lt)
  have HB2 := Lib.hid (HB1.out.trans (hB2.mono HB1.out.size))
  clear ht1 hB2
  go_wp2
  go_ret
  exact ⟨⟨_, rfl⟩, HB2.out, HT2.out⟩
def ValText (w : World) (t : ByteArray) (e : Ending) (w' : World) : Prop := e = .returned (.iface 9 (.string t)) ∧ Below w.heap.size w w'
theorem value_text (w : World) (t : ByteArray) (b : Bool) (z : Int) (A : Option Addr) (n c : Nat) (l : List ByteArray) (h : SL w A n l) (hn : n ≤ 100000) :
    Calls Tryz.prog 84 #[.agg #[.int .i64 0, .string t, .bool b, .int .i32 z, .slice A n c]] w (ValText w t) := (value_calls w 0 t b z A n c l h hn).mono fun e w' h => by
  obtain ⟨hB, ⟨_, he⟩ | ⟨h3, _⟩ | ⟨h0, _⟩⟩ := h
  · exact ⟨he, hB⟩
  · exact absurd h3 (by decide)
  · exact absurd rfl h0
def ValList (w : World) (n : Nat) (l : List ByteArray) (e : Ending) (w' : World) : Prop := ∃ a c, e = .returned (.iface 23 (.slice (some a) n c)) ∧ SL w' (some a) n l ∧ w.heap.size ≤ a.block ∧ a.block < w'.heap.size ∧ Below w.heap.size w w'
theorem value_list (w : World) (t : ByteArray) (b : Bool) (z : Int) (A : Option Addr) (n c : Nat) (l : List ByteArray) (h : SL w A n l) (hn : n ≤ 100000) :
    Calls Tryz.prog 84 #[.agg #[.int .i64 3, .string t, .bool b, .int .i32 z, .slice A n c]] w (ValList w n l) := (value_calls w 3 t b z A n c l h hn).mono fun e w' h => by
  obtain ⟨hB, ⟨h0, _⟩ | ⟨_, a, c, he, h1, h2, h3⟩ | ⟨_, h3, _⟩⟩ := h
  · exact absurd h0 (by decide)
  · exact ⟨a, c, he, h1, h2, h3, hB⟩
  · exact absurd rfl h3
def ValOther (w : World) (e : Ending) (w' : World) : Prop := ∃ v, e = .returned v ∧ IsOther v ∧ Below w.heap.size w w'
theorem value_other (w : World) (k : Int) (t : ByteArray) (b : Bool) (z : Int) (A : Option Addr) (n c : Nat) (l : List ByteArray) (h : SL w A n l) (hn : n ≤ 100000) (h0 : k ≠ 0) (h3 : k ≠ 3) :
    Calls Tryz.prog 84 #[.agg #[.int .i64 k, .string t, .bool b, .int .i32 z, .slice A n c]] w (ValOther w) := (value_calls w k t b z A n c l h hn).mono fun e w' h => by
  obtain ⟨hB, ⟨h0', _⟩ | ⟨h3', _⟩ | ⟨_, _, v, he, ho⟩⟩ := h
  · exact absurd h0' h0
  · exact absurd h3' h3
  · exact ⟨v, he, ho, hB⟩
theorem five_cells {w : World} {g : Nat} {T : TypeId} {a b c d e : Value} (h : Blk w g T #[a, b, c, d, e]) : w.cell? ⟨g, 0, none⟩ = some a ∧ w.cell? ⟨g, 1, none⟩ = some b ∧ w.cell? ⟨g, 2, none⟩ = some c ∧ w.cell? ⟨g, 3, none⟩ = some d ∧ w.cell? ⟨g, 4, none⟩ = some e :=
  ⟨by rw [h.cell]; rfl, by rw [h.cell]; rfl, by rw [h.cell]; rfl, by rw [h.cell]; rfl, by rw [h.cell]; rfl⟩
theorem SClone_nil (w : World) : Calls Tryz.prog 50 #[.slice none 0 0] w fun e w' => e = .returned (.slice none 0 0) ∧ w = w' := by
  have hnil := fun W : World => Lib.run_eql_slice_nil (P := Tryz.prog) W 23 9 none 0 0 0 0 Tryz.underlying23
  go_enter Tryz.func50, Tryz.ntmps50
  go_wp2
  go_ret
  exact ⟨rfl, rfl⟩
theorem Set_calls (w : World) (g : Nat) (s : ByteArray) (v : Value) (Q : Ending → World → Prop) (h : Calls Tryz.prog 271 #[.pointer (some ⟨g, 0, none⟩), .string s, v] w Q) (hq : ∀ e w', Q e w' → ∃ u, e = .returned u) :
    Calls Tryz.prog 267 #[.pointer (some ⟨g, 0, none⟩), .string s, v] w Q := by
  have HA := Lib.hid h
  have HQ := Lib.hid hq
  clear h hq
  go_enter Tryz.func267, Tryz.ntmps267
  go_wp2_with fail
  refine HA.out.mono ?_
  intro e w1 h1
  obtain ⟨u, rfl⟩ := HQ.out e w1 h1
  have H1 := Lib.hid h1
  clear h1
  go_wp2
  exact H1.out
end Go.Proofs.YtapjbdigpleekaaGreat.Cl

/- The walk of Set of a token with any name and any value: what its three texts are behind it; the conditions are on what lies in memory. -/
set_option linter.unusedVariables false
set_option linter.unusedSimpArgs false
namespace Go.Proofs.YtapjbdigpleekaaGreat.Cl
open Go.RowKit Go.Proofs.YtapjbdigpleekaaGreat.K
def MapOk (w : World) (m : Nat) : Prop := ∃ es c, w.heap[m]? = some (.map es c) ∧ ∀ x ∈ es.toList, MapKept.IsKey .string x.key
theorem MapOk.lt {w : World} {m : Nat} (h : MapOk w m) : m < w.heap.size := by
  obtain ⟨es, c, h, _⟩ := h
  exact (Array.getElem?_eq_some_iff.1 h).1
theorem MapOk.grown {w w' : World} {m : Nat} {r : Option Nat} (h : MapOk w m) (hg : w.grownBy w' r) (hne : some m ≠ r) : MapOk w' m := by
  have hl := h.lt
  obtain ⟨es, c, h, hk⟩ := h
  exact ⟨es, c, (hg.block m hl hne).trans h, hk⟩
theorem MapOk.below {w w' : World} {m : Nat} (h : MapOk w m) (hb : Below w.heap.size w w') : MapOk w' m := by
  have hl := h.lt
  obtain ⟨es, c, h, hk⟩ := h
  exact ⟨es, c, (hb.block m hl).trans h, hk⟩
theorem MapOk.ne {w : World} {m g : Nat} {T : TypeId} {cs : Array Value} (h : MapOk w m) (hb : Blk w g T cs) : g ≠ m := by
  rintro rfl
  obtain ⟨es, c, h, _⟩ := h
  unfold Blk at hb
  rw [hb] at h
  cases h
theorem run_mapUp (W : World) (m : Nat) (h : MapOk W m) (s : ByteArray) (v : Value) :
    ∃ W', Sem.run Tryz.prog (Instr.mapUpdate 169 (.map (some m)) (.string s) v) W = .ok () W' ∧ MapOk W' m ∧ W.grownBy W' (some m) := by
  obtain ⟨es, c, hb, hks⟩ := h
  have hk : MapKept.IsKey .string (.string s) := trivial
  have hm : Tryz.prog.underlying 169 = some (.map 9 20) := Tryz.underlying169
  have hd : Tryz.prog.underlying 9 = some .string := Tryz.underlying9
  obtain ⟨r, hr⟩ : ∃ r, Sem.run Tryz.prog (Instr.mapUpdate 169 (.map (some m)) (.string s) v) W = r := ⟨_, rfl⟩
  have hr0 := hr
  rcases MapKept.findNow_spec hk es.toList 0 hks with ⟨h1, _⟩ | ⟨j, e, h1, h2, h3⟩
  · simp [Instr.mapUpdate, run_underlying hm, MapKept.run_getObj_map hb, MapKept.run_checkKey hd hk, MapKept.run_findKey hd h1, MapKept.run_setObj_map _ hb, Result.andThen] at hr
    subst hr
    refine ⟨_, hr0, ⟨_, _, (MapKept.heap_set hb).1, ?_⟩, ⟨rfl, rfl, rfl, by simp, fun k _ hne => (MapKept.heap_set hb).2 k (fun e => hne (by rw [e]))⟩⟩
    intro x hx
    simp only [Array.toList_push, List.mem_append, List.mem_singleton] at hx
    rcases hx with hx | rfl
    · exact hks x hx
    · exact hk
  · have hj : es[j]? = some e := by simpa using h2
    simp [Instr.mapUpdate, run_underlying hm, MapKept.run_getObj_map hb, MapKept.run_checkKey hd hk, MapKept.run_findKey hd h1, hj, h3, MapKept.run_keyThatStays hk, MapKept.run_setObj_map _ hb, Result.andThen] at hr
    subst hr
    exact ⟨_, hr0, ⟨_, _, (MapKept.heap_set hb).1, MapKept.isKey_modify hks j _ (fun e' he' => by rw [hj] at he'; cases he'; exact h3.symm)⟩, ⟨rfl, rfl, rfl, by simp, fun k _ hne => (MapKept.heap_set hb).2 k (fun e => hne (by rw [e]))⟩⟩
/-- The three texts of a token. -/
structure St where
  iss : Option ByteArray
  jti : Option ByteArray
  sub : Option ByteArray
def nIss : ByteArray := ⟨#[105, 115, 115]⟩
def nJti : ByteArray := ⟨#[106, 116, 105]⟩
def nSub : ByteArray := ⟨#[115, 117, 98]⟩
def nAud : ByteArray := ⟨#[97, 117, 100]⟩
def upd (name : ByteArray) (o : Option ByteArray) (st : St) : St :=
  match o with
  | none => st
  | some x => if name = nIss then { st with iss := some x } else if name = nJti then { st with jti := some x } else if name = nSub then { st with sub := some x } else st
def Txt (w : World) (g : Nat) (p : Option Addr) (o : Option ByteArray) : Prop := (o = none ∧ p = none) ∨ ∃ x b, o = some x ∧ p = some ⟨b, 0, none⟩ ∧ Blk w b 9 #[.string x] ∧ b ≠ g
theorem Txt.grown {w w' : World} {g : Nat} {p : Option Addr} {o : Option ByteArray} {r : Option Nat} (h : Txt w g p o) (hg : w.grownBy w' r) (hne : ∀ b x, Blk w b 9 #[.string x] → b ≠ g → some b ≠ r) : Txt w' g p o := by
  rcases h with h | ⟨x, b, h1, h2, h3, h4⟩
  · exact Or.inl h
  · exact Or.inr ⟨x, b, h1, h2, h3.grown hg (hne b x h3 h4), h4⟩
def TokS (w0 w : World) (g : Nat) (st : St) : Prop :=
  ∃ A n c pi pj ps m, Blk w g 208 #[.int .u64 0, .slice A n c, .pointer pi, .pointer pj, .pointer ps, .map (some m)] ∧ Txt w g pi st.iss ∧ Txt w g pj st.jti ∧ Txt w g ps st.sub ∧ MapOk w m ∧ w0.heap.size ≤ m
theorem TokS.lt {w0 w : World} {g : Nat} {st : St} (h : TokS w0 w g st) : g < w.heap.size := by
  obtain ⟨A, n, c, pi, pj, ps, m, h, _⟩ := h
  exact h.lt
/-- Nothing that was there is touched. -/
theorem TokS.below {w0 w w' : World} {g : Nat} {st : St} (h : TokS w0 w g st) (hb : Below w.heap.size w w') : TokS w0 w' g st := by
  obtain ⟨A, n, c, pi, pj, ps, m, h1, h2, h3, h4, h5, h6⟩ := h
  have hg := grown_of_below hb (Nat.le_refl _) none
  exact ⟨A, n, c, pi, pj, ps, m, h1.below hb h1.lt, h2.grown hg (fun _ _ _ _ e => by cases e), h3.grown hg (fun _ _ _ _ e => by cases e), h4.grown hg (fun _ _ _ _ e => by cases e), h5.below hb, h6⟩
def VForm (v : Value) (o : Option ByteArray) : Prop := (∃ s, v = .iface 9 (.string s) ∧ o = some s) ∨ (∃ a n c, v = .iface 23 (.slice (some a) n c) ∧ o = none) ∨ (IsOther v ∧ o = none)
/-- What a type assertion to a text gives. -/
theorem VForm.ta {v : Value} {o : Option ByteArray} (h : VForm v o) (W : World) : Sem.run Tryz.prog (Instr.typeAssert v 20 9 true) W = .ok (.tuple #[.string (o.getD ByteArray.empty), .bool o.isSome]) W := by
  rcases h with ⟨s, rfl, rfl⟩ | ⟨a, n, c, rfl, rfl⟩ | ⟨rfl | ⟨b, rfl⟩ | ⟨f, rfl⟩, rfl⟩
  · exact ta_text s W
  · exact ta_list1 (some a) n c W
  · exact ta_nil1 W
  · exact ta_b1 b W
  · exact ta_f1 f W
def APost (w : World) (g : Nat) (e : Ending) (w' : World) : Prop :=
  (e = .returned .nilIface ∧ w.grownBy w' (some g) ∧ ∃ A n c, Blk w' g 203 #[.slice A n c]) ∨ ((∃ T u, e = .returned (.iface T u)) ∧ w.grownBy w' (some g))
set_option maxRecDepth 100000 in
set_option maxHeartbeats 1000000 in
theorem Accept_any (w : World) (g : Nat) (v : Value) (o : Option ByteArray) (hv : VForm v o) (hb : Blk w g 203 #[.slice none 0 0]) :
    Calls Tryz.prog 256 #[.pointer (some ⟨g, 0, none⟩), v] w (APost w g) := by
  rcases hv with ⟨s, rfl, rfl⟩ | ⟨a, n, c, rfl, rfl⟩ | ⟨hv, rfl⟩
  · refine (Accept_text w g s hb).mono ?_
    rintro e w' ⟨rfl, hg, a, c, h1, _⟩
    exact Or.inl ⟨rfl, hg, _, _, _, h1⟩
  · have hc1 : w.cell? ⟨g, 0, none⟩ = some (.slice none 0 0) := by rw [hb.cell]; rfl
    have hf1 : w.frozen? ⟨g, 0, none⟩ = false := hb.frozen 0
    have HB1 := Lib.hid hb
    have hta1 := ta_list1 (some a) n c
    have hta2 := ta_list2 (some a) n c
    clear hb
    go_enter Tryz.func256, Tryz.ntmps256
    go_wp2
    go_ret
    exact Or.inl ⟨rfl, setCell_grown w ⟨g, 0, none⟩ (.slice (some a) n c), _, _, _, HB1.out.set_ 0 _⟩
  · refine (Accept_other w g v hv).mono ?_
    rintro e w' ⟨h, hB⟩
    exact Or.inr ⟨h, grown_of_below hB (Nat.le_refl _) _⟩
/-- Blocks of cells but one lie as before. -/
def Fr (w : World) (g : Nat) (w' : World) : Prop := ∀ k T cs, Blk w k T cs → k ≠ g → Blk w' k T cs
theorem Fr.of {w w' : World} {g : Nat} (h : Below w.heap.size w w') : Fr w g w' := fun k T cs hk _ => hk.below h hk.lt
def SPost (w0 w : World) (g : Nat) (st : St) (e : Ending) (w' : World) : Prop := (∃ u, e = .returned u) ∧ Below w0.heap.size w0 w' ∧ TokS w0 w' g st ∧ Fr w g w'
end Go.Proofs.YtapjbdigpleekaaGreat.Cl

/- setNoLock of a token with any name and any value. -/
set_option linter.unusedVariables false
set_option linter.unusedSimpArgs false
namespace Go.Proofs.YtapjbdigpleekaaGreat.Cl
open Go.RowKit Go.Proofs.YtapjbdigpleekaaGreat.K
def put_iss (st : St) (o : Option ByteArray) : St := match o with | none => st | some x => { st with iss := some x }
def put_jti (st : St) (o : Option ByteArray) : St := match o with | none => st | some x => { st with jti := some x }
def put_sub (st : St) (o : Option ByteArray) : St := match o with | none => st | some x => { st with sub := some x }
theorem str_nel (x : ByteArray) (l : List UInt8) (h : x ≠ ⟨l.toArray⟩) : (x.toList == l) = false := by
  rw [beq_eq_false_iff_ne, ByteArray.toList_eq]
  intro e
  exact h (Go.WideShapes.bytes_inj (by rw [e]))
theorem strb (x y : ByteArray) (h : (x.data.toList == y.data.toList) = false) : (x.toList == y.toList) = false := by
  rw [ByteArray.toList_eq, ByteArray.toList_eq]; exact h
set_option maxRecDepth 100000 in
set_option maxHeartbeats 2000000 in
theorem set_iss (w0 w : World) (g : Nat) (st : St) (v : Value) (o : Option ByteArray) (hv : VForm v o) (hB : Below w0.heap.size w0 w) (hg : w0.heap.size ≤ g) (ht : TokS w0 w g st) :
    Calls Tryz.prog 271 #[.pointer (some ⟨g, 0, none⟩), .string ⟨#[105, 115, 115]⟩, v] w (SPost w0 w g (put_iss st o)) := by
  have qaud : (((⟨#[105, 115, 115]⟩ : ByteArray)).toList == ((⟨#[97, 117, 100]⟩ : ByteArray)).toList) = false := strb _ _ (by decide)
  cases o with
  | none =>
    have hta := hv.ta
    have HE := Lib.hid (fun W s => errNew_calls W s)
    have HT := Lib.hid ht
    have HB := Lib.hid (below_alloc' hB (.cells #[.string ByteArray.empty] 9))
    clear ht hB hv
    simp only [Option.getD_none, Option.isSome_none] at hta
    go_enter Tryz.func271, Tryz.ntmps271
    go_wp2_with fail
    refine (HE.out _ _).mono ?_
    rintro e w2 ⟨⟨T, u, rfl⟩, hB2⟩
    have HB2 := Lib.hid (HB.out.trans (hB2.mono HB.out.size))
    have hBw : Below w.heap.size w w2 := ((Below.refl w.heap.size w).alloc (Nat.le_refl _) (.cells #[.string ByteArray.empty] 9)).trans (hB2.mono (by simp))
    have HT2 := Lib.hid (And.intro (HT.out.below hBw) (Fr.of (g := g) hBw))
    clear hB2 hBw
    go_wp2
    go_ret
    exact ⟨⟨_, rfl⟩, HB2.out, HT2.out.1, HT2.out.2⟩
  | some x =>
    have hta := hv.ta
    simp only [Option.getD_some, Option.isSome_some] at hta
    have HT := Lib.hid ht
    obtain ⟨A, n, c, pi, pj, ps, m, hb, hi, hj, hs, hm, hm0⟩ := ht
    have hb1 := hb.alloc (.cells #[.string x] 9)
    have hc2 : (w.alloc (.cells #[.string x] 9)).cell? ⟨g, 2, none⟩ = some (.pointer pi) := by rw [hb1.cell]; rfl
    have hf2 : (w.alloc (.cells #[.string x] 9)).frozen? ⟨g, 2, none⟩ = false := hb1.frozen 2
    have HB1 := Lib.hid hb1
    have HX := Lib.hid (And.intro hi (And.intro hj (And.intro hs (And.intro hm (And.intro hm0 (hm.ne hb))))))
    have HB := Lib.hid (And.intro (below_alloc' hB (.cells #[.string x] 9)) hg)
    clear hb hb1 hi hj hs hm hm0 hB hg hv
    go_enter Tryz.func271, Tryz.ntmps271
    go_wp2
    go_ret
    have hst := setCell_grown (w.alloc (.cells #[.string x] 9)) ⟨g, 2, none⟩ (.pointer (some ⟨w.heap.size, 0, none⟩))
    have hga := World.grownBy_alloc w (.cells #[.string x] 9) none
    obtain ⟨hi, hj, hs, hm, hm0, hgm⟩ := HX.out
    exact ⟨⟨_, rfl⟩, HB.out.1.grown hst HB.out.1.size (by intro j hj; cases hj; exact HB.out.2), ⟨A, n, c, _, _, _, m, HB1.out.set_ 2 _, (Or.inr ⟨x, w.heap.size, rfl, rfl, (Blk.new w 9 #[.string x]).far (by have := HT.out.lt; show w.heap.size ≠ g; omega) _, by have := HT.out.lt; omega⟩), ((hj.grown hga (fun _ _ _ _ e => by cases e)).grown hst (fun b x _ hne e => hne (Option.some.inj e))), ((hs.grown hga (fun _ _ _ _ e => by cases e)).grown hst (fun b x _ hne e => hne (Option.some.inj e))), (hm.grown hga (by intro e; cases e)).grown hst (fun e => hgm (Option.some.inj e).symm), hm0⟩, fun k T cs hk hne => (hk.alloc _).far hne _⟩
set_option maxRecDepth 100000 in
set_option maxHeartbeats 2000000 in
theorem set_jti (w0 w : World) (g : Nat) (st : St) (v : Value) (o : Option ByteArray) (hv : VForm v o) (hB : Below w0.heap.size w0 w) (hg : w0.heap.size ≤ g) (ht : TokS w0 w g st) :
    Calls Tryz.prog 271 #[.pointer (some ⟨g, 0, none⟩), .string ⟨#[106, 116, 105]⟩, v] w (SPost w0 w g (put_jti st o)) := by
  have qaud : (((⟨#[106, 116, 105]⟩ : ByteArray)).toList == ((⟨#[97, 117, 100]⟩ : ByteArray)).toList) = false := strb _ _ (by decide)
  have qiss : (((⟨#[106, 116, 105]⟩ : ByteArray)).toList == ((⟨#[105, 115, 115]⟩ : ByteArray)).toList) = false := strb _ _ (by decide)
  cases o with
  | none =>
    have hta := hv.ta
    have HE := Lib.hid (fun W s => errNew_calls W s)
    have HT := Lib.hid ht
    have HB := Lib.hid (below_alloc' hB (.cells #[.string ByteArray.empty] 9))
    clear ht hB hv
    simp only [Option.getD_none, Option.isSome_none] at hta
    go_enter Tryz.func271, Tryz.ntmps271
    go_wp2_with fail
    refine (HE.out _ _).mono ?_
    rintro e w2 ⟨⟨T, u, rfl⟩, hB2⟩
    have HB2 := Lib.hid (HB.out.trans (hB2.mono HB.out.size))
    have hBw : Below w.heap.size w w2 := ((Below.refl w.heap.size w).alloc (Nat.le_refl _) (.cells #[.string ByteArray.empty] 9)).trans (hB2.mono (by simp))
    have HT2 := Lib.hid (And.intro (HT.out.below hBw) (Fr.of (g := g) hBw))
    clear hB2 hBw
    go_wp2
    go_ret
    exact ⟨⟨_, rfl⟩, HB2.out, HT2.out.1, HT2.out.2⟩
  | some x =>
    have hta := hv.ta
    simp only [Option.getD_some, Option.isSome_some] at hta
    have HT := Lib.hid ht
    obtain ⟨A, n, c, pi, pj, ps, m, hb, hi, hj, hs, hm, hm0⟩ := ht
    have hb1 := hb.alloc (.cells #[.string x] 9)
    have hc2 : (w.alloc (.cells #[.string x] 9)).cell? ⟨g, 3, none⟩ = some (.pointer pj) := by rw [hb1.cell]; rfl
    have hf2 : (w.alloc (.cells #[.string x] 9)).frozen? ⟨g, 3, none⟩ = false := hb1.frozen 3
    have HB1 := Lib.hid hb1
    have HX := Lib.hid (And.intro hi (And.intro hj (And.intro hs (And.intro hm (And.intro hm0 (hm.ne hb))))))
    have HB := Lib.hid (And.intro (below_alloc' hB (.cells #[.string x] 9)) hg)
    clear hb hb1 hi hj hs hm hm0 hB hg hv
    go_enter Tryz.func271, Tryz.ntmps271
    go_wp2
    go_ret
    have hst := setCell_grown (w.alloc (.cells #[.string x] 9)) ⟨g, 3, none⟩ (.pointer (some ⟨w.heap.size, 0, none⟩))
    have hga := World.grownBy_alloc w (.cells #[.string x] 9) none
    obtain ⟨hi, hj, hs, hm, hm0, hgm⟩ := HX.out
    exact ⟨⟨_, rfl⟩, HB.out.1.grown hst HB.out.1.size (by intro j hj; cases hj; exact HB.out.2), ⟨A, n, c, _, _, _, m, HB1.out.set_ 3 _, ((hi.grown hga (fun _ _ _ _ e => by cases e)).grown hst (fun b x _ hne e => hne (Option.some.inj e))), (Or.inr ⟨x, w.heap.size, rfl, rfl, (Blk.new w 9 #[.string x]).far (by have := HT.out.lt; show w.heap.size ≠ g; omega) _, by have := HT.out.lt; omega⟩), ((hs.grown hga (fun _ _ _ _ e => by cases e)).grown hst (fun b x _ hne e => hne (Option.some.inj e))), (hm.grown hga (by intro e; cases e)).grown hst (fun e => hgm (Option.some.inj e).symm), hm0⟩, fun k T cs hk hne => (hk.alloc _).far hne _⟩
set_option maxRecDepth 100000 in
set_option maxHeartbeats 2000000 in
theorem set_sub (w0 w : World) (g : Nat) (st : St) (v : Value) (o : Option ByteArray) (hv : VForm v o) (hB : Below w0.heap.size w0 w) (hg : w0.heap.size ≤ g) (ht : TokS w0 w g st) :
    Calls Tryz.prog 271 #[.pointer (some ⟨g, 0, none⟩), .string ⟨#[115, 117, 98]⟩, v] w (SPost w0 w g (put_sub st o)) := by
  have qaud : (((⟨#[115, 117, 98]⟩ : ByteArray)).toList == ((⟨#[97, 117, 100]⟩ : ByteArray)).toList) = false := strb _ _ (by decide)
  have qiss : (((⟨#[115, 117, 98]⟩ : ByteArray)).toList == ((⟨#[105, 115, 115]⟩ : ByteArray)).toList) = false := strb _ _ (by decide)
  have qjti : (((⟨#[115, 117, 98]⟩ : ByteArray)).toList == ((⟨#[106, 116, 105]⟩ : ByteArray)).toList) = false := strb _ _ (by decide)
  cases o with
  | none =>
    have hta := hv.ta
    have HE := Lib.hid (fun W s => errNew_calls W s)
    have HT := Lib.hid ht
    have HB := Lib.hid (below_alloc' hB (.cells #[.string ByteArray.empty] 9))
    clear ht hB hv
    simp only [Option.getD_none, Option.isSome_none] at hta
    go_enter Tryz.func271, Tryz.ntmps271
    go_wp2_with fail
    refine (HE.out _ _).mono ?_
    rintro e w2 ⟨⟨T, u, rfl⟩, hB2⟩
    have HB2 := Lib.hid (HB.out.trans (hB2.mono HB.out.size))
    have hBw : Below w.heap.size w w2 := ((Below.refl w.heap.size w).alloc (Nat.le_refl _) (.cells #[.string ByteArray.empty] 9)).trans (hB2.mono (by simp))
    have HT2 := Lib.hid (And.intro (HT.out.below hBw) (Fr.of (g := g) hBw))
    clear hB2 hBw
    go_wp2
    go_ret
    exact ⟨⟨_, rfl⟩, HB2.out, HT2.out.1, HT2.out.2⟩
  | some x =>
    have hta := hv.ta
    simp only [Option.getD_some, Option.isSome_some] at hta
    have HT := Lib.hid ht
    obtain ⟨A, n, c, pi, pj, ps, m, hb, hi, hj, hs, hm, hm0⟩ := ht
    have hb1 := hb.alloc (.cells #[.string x] 9)
    have hc2 : (w.alloc (.cells #[.string x] 9)).cell? ⟨g, 4, none⟩ = some (.pointer ps) := by rw [hb1.cell]; rfl
    have hf2 : (w.alloc (.cells #[.string x] 9)).frozen? ⟨g, 4, none⟩ = false := hb1.frozen 4
    have HB1 := Lib.hid hb1
    have HX := Lib.hid (And.intro hi (And.intro hj (And.intro hs (And.intro hm (And.intro hm0 (hm.ne hb))))))
    have HB := Lib.hid (And.intro (below_alloc' hB (.cells #[.string x] 9)) hg)
    clear hb hb1 hi hj hs hm hm0 hB hg hv
    go_enter Tryz.func271, Tryz.ntmps271
    go_wp2
    go_ret
    have hst := setCell_grown (w.alloc (.cells #[.string x] 9)) ⟨g, 4, none⟩ (.pointer (some ⟨w.heap.size, 0, none⟩))
    have hga := World.grownBy_alloc w (.cells #[.string x] 9) none
    obtain ⟨hi, hj, hs, hm, hm0, hgm⟩ := HX.out
    exact ⟨⟨_, rfl⟩, HB.out.1.grown hst HB.out.1.size (by intro j hj; cases hj; exact HB.out.2), ⟨A, n, c, _, _, _, m, HB1.out.set_ 4 _, ((hi.grown hga (fun _ _ _ _ e => by cases e)).grown hst (fun b x _ hne e => hne (Option.some.inj e))), ((hj.grown hga (fun _ _ _ _ e => by cases e)).grown hst (fun b x _ hne e => hne (Option.some.inj e))), (Or.inr ⟨x, w.heap.size, rfl, rfl, (Blk.new w 9 #[.string x]).far (by have := HT.out.lt; show w.heap.size ≠ g; omega) _, by have := HT.out.lt; omega⟩), (hm.grown hga (by intro e; cases e)).grown hst (fun e => hgm (Option.some.inj e).symm), hm0⟩, fun k T cs hk hne => (hk.alloc _).far hne _⟩
set_option maxRecDepth 100000 in
set_option maxHeartbeats 2000000 in
theorem set_aud (w0 w : World) (g : Nat) (st : St) (v : Value) (o : Option ByteArray) (hv : VForm v o) (hB : Below w0.heap.size w0 w) (hg : w0.heap.size ≤ g) (ht : TokS w0 w g st) :
    Calls Tryz.prog 271 #[.pointer (some ⟨g, 0, none⟩), .string ⟨#[97, 117, 100]⟩, v] w (SPost w0 w g st) := by
  have HA := Lib.hid (Accept_any (w.alloc (.cells #[.slice none 0 0] 203)) w.heap.size v o hv (Blk.new w _ _))
  have HT := Lib.hid ht
  have HB := Lib.hid (And.intro (below_alloc' hB (.cells #[.slice none 0 0] 203)) (And.intro hB.size hg))
  have HE := Lib.hid (fun W s => errNew_calls W s)
  clear ht hB hg hv
  go_enter Tryz.func271, Tryz.ntmps271
  go_wp2_with fail
  refine HA.out.mono ?_
  rintro e w1 (⟨rfl, hg1, A1, n1, c1, hb1⟩ | ⟨⟨T, u, rfl⟩, hg1⟩)
  · have hc1 : w1.cell? ⟨w.heap.size, 0, none⟩ = some (.slice A1 n1 c1) := by rw [hb1.cell]; rfl
    have hbw : Below w.heap.size w w1 := ((Below.refl w.heap.size w).alloc (Nat.le_refl _) (.cells #[.slice none 0 0] 203)).grown hg1 (by simp) (by intro j hj; cases hj; exact Nat.le_refl _)
    have hT1 : TokS w0 w1 g st := HT.out.below hbw
    have HBW := Lib.hid hbw
    clear hbw
    have HB1 := Lib.hid (HB.out.1.grown hg1 (by have := HB.out.2.1; simp; omega) (by intro j hj; cases hj; exact HB.out.2.1))
    obtain ⟨A, n, c, pi, pj, ps, m, hb, hi, hj, hs, hm, hm0⟩ := hT1
    have hc2 : w1.cell? ⟨g, 1, none⟩ = some (.slice A n c) := by rw [hb.cell]; rfl
    have hf2 : w1.frozen? ⟨g, 1, none⟩ = false := hb.frozen 1
    have HX := Lib.hid (And.intro hb (And.intro hi (And.intro hj (And.intro hs (And.intro hm (And.intro hm0 (hm.ne hb)))))))
    clear hb hi hj hs hm hm0 hg1 hb1 HA
    go_wp2
    go_ret
    have hst := setCell_grown w1 ⟨g, 1, none⟩ (.slice A1 n1 c1)
    obtain ⟨hb, hi, hj, hs, hm, hm0, hgm⟩ := HX.out
    exact ⟨⟨_, rfl⟩, HB1.out.grown hst HB1.out.size (by intro j hj; cases hj; exact HB.out.2.2), ⟨A1, n1, c1, pi, pj, ps, m, hb.set_ 1 _, hi.grown hst (fun b x _ hne e => hne (Option.some.inj e)), hj.grown hst (fun b x _ hne e => hne (Option.some.inj e)), hs.grown hst (fun b x _ hne e => hne (Option.some.inj e)), hm.grown hst (fun e => hgm (Option.some.inj e).symm), hm0⟩, fun k T cs hk hne => (hk.below HBW.out hk.lt).far hne _⟩
  · have hbw : Below w.heap.size w w1 := ((Below.refl w.heap.size w).alloc (Nat.le_refl _) (.cells #[.slice none 0 0] 203)).grown hg1 (by simp) (by intro j hj; cases hj; exact Nat.le_refl _)
    have HT1 := Lib.hid (HT.out.below hbw)
    have HBW := Lib.hid hbw
    have HB1 := Lib.hid (HB.out.1.grown hg1 (by have := HB.out.2.1; simp; omega) (by intro j hj; cases hj; exact HB.out.2.1))
    clear hbw hg1 HA
    go_wp2_with fail
    refine (HE.out _ _).mono ?_
    rintro e w2 ⟨⟨T2, u2, rfl⟩, hB2⟩
    have HB2 := Lib.hid (HB1.out.trans (hB2.mono HB1.out.size))
    have HT2 := Lib.hid (And.intro (HT1.out.below hB2) (Fr.of (g := g) (below_then HBW.out hB2)))
    clear hB2
    go_wp2
    go_ret
    exact ⟨⟨_, rfl⟩, HB2.out, HT2.out.1, HT2.out.2⟩
set_option maxRecDepth 100000 in
set_option maxHeartbeats 2000000 in
theorem set_rest (w0 w : World) (g : Nat) (st : St) (v : Value) (o : Option ByteArray) (hv : VForm v o) (hB : Below w0.heap.size w0 w) (hg : w0.heap.size ≤ g) (ht : TokS w0 w g st) (name : ByteArray) (n1 : name ≠ ⟨#[97, 117, 100]⟩) (n2 : name ≠ ⟨#[105, 115, 115]⟩) (n3 : name ≠ ⟨#[106, 116, 105]⟩) (n4 : name ≠ ⟨#[115, 117, 98]⟩) :
    Calls Tryz.prog 271 #[.pointer (some ⟨g, 0, none⟩), .string name, v] w (SPost w0 w g st) := by
  have q1 : (name.toList == [97, 117, 100]) = false := str_nel name [97, 117, 100] n1
  have q2 : (name.toList == [105, 115, 115]) = false := str_nel name [105, 115, 115] n2
  have q3 : (name.toList == [106, 116, 105]) = false := str_nel name [106, 116, 105] n3
  have q4 : (name.toList == [115, 117, 98]) = false := str_nel name [115, 117, 98] n4
  obtain ⟨A, n, c, pi, pj, ps, m, hb, hi, hj, hs, hm, hm0⟩ := ht
  have hc5 : w.cell? ⟨g, 5, none⟩ = some (.map (some m)) := by rw [hb.cell]; rfl
  obtain ⟨w1, hup, hm1, hg1⟩ := run_mapUp w m hm name v
  have hmn : ∀ W : World, Sem.run Tryz.prog (binOp .eql 169 (.map (some m)) (.map none)) W = .ok (.bool false) W := fun W => by kernel_rfl
  have HX := Lib.hid (And.intro hb (And.intro hi (And.intro hj (And.intro hs (And.intro hm (And.intro hm0 (And.intro (hm.ne hb) (And.intro hm1 hg1))))))))
  have HB := Lib.hid hB
  clear hb hi hj hs hm hm0 hm1 hg1 hB n1 n2 n3 n4
  go_enter Tryz.func271, Tryz.ntmps271
  go_wp2
  go_ret
  obtain ⟨hb, hi, hj, hs, hm, hm0, hgm, hm1, hg1⟩ := HX.out
  have hne : ∀ b x, Blk w b 9 #[.string x] → b ≠ g → some b ≠ some m := fun b x h _ e => hm.ne h (Option.some.inj e)
  exact ⟨⟨_, rfl⟩, HB.out.grown hg1 HB.out.size (by intro j hj; cases hj; exact hm0), ⟨A, n, c, pi, pj, ps, m, hb.grown hg1 (fun e => hgm (Option.some.inj e)), hi.grown hg1 hne, hj.grown hg1 hne, hs.grown hg1 hne, hm1, hm0⟩, fun k T cs hk _ => hk.grown hg1 (fun e => hm.ne hk (Option.some.inj e))⟩
theorem set_any (w0 w : World) (g : Nat) (st : St) (v : Value) (o : Option ByteArray) (hv : VForm v o) (hB : Below w0.heap.size w0 w) (hg : w0.heap.size ≤ g) (ht : TokS w0 w g st) (name : ByteArray) :
    Calls Tryz.prog 271 #[.pointer (some ⟨g, 0, none⟩), .string name, v] w (SPost w0 w g (upd name o st)) := by
  by_cases n1 : name = ⟨#[97, 117, 100]⟩
  · subst n1
    have e : upd ⟨#[97, 117, 100]⟩ o st = st := by
      cases o with
      | none => rfl
      | some x => simp [upd, nIss, nJti, nSub]
    rw [e]
    exact set_aud w0 w g st v o hv hB hg ht
  by_cases n2 : name = ⟨#[105, 115, 115]⟩
  · subst n2
    have e : upd ⟨#[105, 115, 115]⟩ o st = put_iss st o := by cases o <;> simp [put_iss, upd, nIss]
    rw [e]
    exact set_iss w0 w g st v o hv hB hg ht
  by_cases n3 : name = ⟨#[106, 116, 105]⟩
  · subst n3
    have e : upd ⟨#[106, 116, 105]⟩ o st = put_jti st o := by cases o <;> simp [put_jti, upd, nIss, nJti]
    rw [e]
    exact set_jti w0 w g st v o hv hB hg ht
  by_cases n4 : name = ⟨#[115, 117, 98]⟩
  · subst n4
    have e : upd ⟨#[115, 117, 98]⟩ o st = put_sub st o := by cases o <;> simp [put_sub, upd, nIss, nJti, nSub]
    rw [e]
    exact set_sub w0 w g st v o hv hB hg ht
  have e : upd name o st = st := by
    cases o with
    | none => rfl
    | some x => simp [upd, nIss, nJti, nSub, n2, n3, n4]
  rw [e]
  exact set_rest w0 w g st v o hv hB hg ht name n1 n2 n3 n4
end Go.Proofs.YtapjbdigpleekaaGreat.Cl

/- Walks of impl.fresh and impl.filled for a token of jwt: what its three texts are behind the fields; the conditions are on sizes alone. -/
set_option linter.unusedVariables false
set_option linter.unusedSimpArgs false
namespace Go.Proofs.YtapjbdigpleekaaGreat.Cl
open Go.RowKit Go.Proofs.YtapjbdigpleekaaGreat.K
/-- A field as it lies in memory. -/
structure Fd where
  name : ByteArray
  k : Int
  t : ByteArray
  b : Bool
  z : Int
  A : Option Addr
  n : Nat
  c : Nat
  l : List ByteArray
def fc (f : Fd) : List Value := [.string f.name, .int .i64 f.k, .string f.t, .bool f.b, .int .i32 f.z, .slice f.A f.n f.c]
def fvs : List Fd → List Value
  | [] => []
  | f :: r => fc f ++ fvs r
theorem fvs_len : ∀ fs : List Fd, (fvs fs).length = fs.length * 6
  | [] => rfl
  | f :: r => by rw [fvs, List.length_append, fvs_len r, List.length_cons]; simp [fc]; omega
theorem fvs_at : ∀ (fs : List Fd) (j i : Nat) (h : j < fs.length), i < 6 → (fvs fs)[j * 6 + i]? = (fc fs[j])[i]?
  | f :: r, 0, i, _, hi => by rw [fvs, List.getElem?_append_left (by simp [fc]; omega)]; simp
  | f :: r, j + 1, i, h, hi => by
    rw [fvs, List.getElem?_append_right (by simp [fc]; omega)]
    have := fvs_at r j i (by simpa using h) hi
    rw [show (j + 1) * 6 + i - (fc f).length = j * 6 + i by simp [fc]; omega]
    simpa using this
theorem fvs_app : ∀ a b : List Fd, fvs (a ++ b) = fvs a ++ fvs b
  | [], b => rfl
  | f :: r, b => by rw [List.cons_append, fvs, fvs, fvs_app r b, List.append_assoc]
def FL (w : World) (A : Option Addr) (n : Nat) (fs : List Fd) : Prop := Reads w 6 A n (fvs fs) ∧ ∀ f ∈ fs, SL w f.A f.n f.l
theorem FL.len {w : World} {A : Option Addr} {n : Nat} {fs : List Fd} (h : FL w A n fs) : n = fs.length := by have := h.1.1; rw [fvs_len] at this; omega
theorem FL.below {w w' : World} {A : Option Addr} {n : Nat} {fs : List Fd} {B : Nat} (h : FL w A n fs) (hb : Below B w w') (hB : w.heap.size ≤ B) : FL w' A n fs :=
  ⟨h.1.below hb hB, fun f hf => (h.2 f hf).below hb hB⟩
theorem FL.at_ {w : World} {A : Option Addr} {n j : Nat} {fs : List Fd} (h : FL w A n fs) (hj : j < fs.length) :
    ∃ ad, A = some ad ∧ w.cell? (ad.add (j * 6)) = some (.string fs[j].name) ∧ w.cell? ⟨(ad.add (j * 6)).block, (ad.add (j * 6)).off + 1, none⟩ = some (.int .i64 fs[j].k) ∧ w.cell? ⟨(ad.add (j * 6)).block, (ad.add (j * 6)).off + 2, none⟩ = some (.string fs[j].t) ∧ w.cell? ⟨(ad.add (j * 6)).block, (ad.add (j * 6)).off + 3, none⟩ = some (.bool fs[j].b) ∧ w.cell? ⟨(ad.add (j * 6)).block, (ad.add (j * 6)).off + 4, none⟩ = some (.int .i32 fs[j].z) ∧ w.cell? ⟨(ad.add (j * 6)).block, (ad.add (j * 6)).off + 5, none⟩ = some (.slice fs[j].A fs[j].n fs[j].c) ∧ SL w fs[j].A fs[j].n fs[j].l := by
  have hn := h.len
  obtain ⟨ad, rfl, _, hc⟩ := h.1.2 (by omega)
  have g : ∀ i, i < 6 → (fvs fs)[j * 6 + i]? = (fc fs[j])[i]? := fun i hi => fvs_at fs j i hj hi
  exact ⟨ad, rfl, hc (j * 6) _ (by have := g 0 (by decide); simpa [fc] using this), cell_next (hc (j * 6 + 1) _ (by rw [g 1 (by decide)]; rfl)), cell_next (hc (j * 6 + 2) _ (by rw [g 2 (by decide)]; rfl)), cell_next (hc (j * 6 + 3) _ (by rw [g 3 (by decide)]; rfl)), cell_next (hc (j * 6 + 4) _ (by rw [g 4 (by decide)]; rfl)), cell_next (hc (j * 6 + 5) _ (by rw [g 5 (by decide)]; rfl)), h.2 _ (List.getElem_mem hj)⟩
def oF (f : Fd) : Option ByteArray := if f.k = 0 then some f.t else none
def stF (fs : List Fd) (st : St) : St := fs.foldl (fun st f => upd f.name (oF f) st) st
def st0 : St := ⟨none, none, none⟩
theorem stF_step (fs : List Fd) (st : St) (j : Nat) (h : j < fs.length) : stF (fs.take (j + 1)) st = upd fs[j].name (oF fs[j]) (stF (fs.take j) st) := by
  unfold stF
  rw [List.take_succ_eq_append_getElem h, List.foldl_append]
  rfl
def NPost (w : World) (e : Ending) (w' : World) : Prop := ∃ g, e = .returned (.iface 206 (.pointer (some ⟨g, 0, none⟩))) ∧ TokS w w' g st0 ∧ w.heap.size ≤ g ∧ Below w.heap.size w w'
set_option maxRecDepth 100000 in
set_option maxHeartbeats 1000000 in
theorem New2_calls (w : World) : Calls Tryz.prog 100 #[] w (NPost w) := by
  have HO := Lib.hid (fun W => OptSet_calls W)
  have hmk : ∀ W : World, Sem.run Tryz.prog (Instr.makeMap 169 none) W = .ok (.map (some W.heap.size)) (W.alloc (.map #[] 0)) := fun W => by kernel_rfl
  go_enter Tryz.func100, Tryz.ntmps100
  go_wp2_with fail
  refine (HO.out _).mono ?_
  rintro e w1 ⟨rfl, rfl⟩
  go_wp2
  go_ret
  refine ⟨w.heap.size + 1, rfl, ⟨none, 0, 0, none, none, none, w.heap.size, ?_, Or.inl ⟨rfl, rfl⟩, Or.inl ⟨rfl, rfl⟩, Or.inl ⟨rfl, rfl⟩, ⟨#[], 0, ?_, fun x hx => by simp at hx⟩, Nat.le_refl _⟩, by omega, below_alloc' (below_alloc' (Below.refl _ _) _) _⟩
  · have := Blk.new (w.alloc (.map #[] 0)) 208 #[.int .u64 0, .slice none 0 0, .pointer none, .pointer none, .pointer none, .map (some w.heap.size)]
    rwa [show (w.alloc (.map #[] 0)).heap.size = w.heap.size + 1 from by simp] at this
  · rw [Below.heap_alloc _ _ _ (by simp)]
    exact heap_alloc_new w _
set_option maxRecDepth 100000 in
set_option maxHeartbeats 1000000 in
theorem fresh_calls (w : World) : Calls Tryz.prog 70 #[.int .i64 2] w (NPost w) := by
  have HN := Lib.hid (New2_calls w)
  go_enter Tryz.func70, Tryz.ntmps70
  go_wp2_with fail
  refine HN.out.mono ?_
  rintro e w1 ⟨g, rfl, h1, h2, h3⟩
  have H := Lib.hid (And.intro h1 (And.intro h2 h3))
  clear h1 h2 h3
  go_wp2
  go_ret
  exact ⟨g, rfl, H.out.1, H.out.2.1, H.out.2.2⟩
def VFPost (w : World) (o : Option ByteArray) (e : Ending) (w' : World) : Prop := ∃ v, e = .returned v ∧ VForm v o ∧ Below w.heap.size w w'
theorem value_form (w : World) (k : Int) (t : ByteArray) (b : Bool) (z : Int) (A : Option Addr) (n c : Nat) (l : List ByteArray) (h : SL w A n l) (hn : n ≤ 100000) :
    Calls Tryz.prog 84 #[.agg #[.int .i64 k, .string t, .bool b, .int .i32 z, .slice A n c]] w (VFPost w (if k = 0 then some t else none)) := (value_calls w k t b z A n c l h hn).mono fun e w' h => by
  obtain ⟨hB, ⟨h0, he⟩ | ⟨h3, a, c, he, _⟩ | ⟨h0, _, v, he, ho⟩⟩ := h
  · exact ⟨_, he, Or.inl ⟨t, rfl, by rw [if_pos h0]⟩, hB⟩
  · exact ⟨_, he, Or.inr (Or.inl ⟨a, n, c, rfl, by rw [if_neg (by rw [h3]; decide)]⟩), hB⟩
  · exact ⟨v, he, Or.inr (Or.inr ⟨ho, by rw [if_neg h0]⟩), hB⟩
end Go.Proofs.YtapjbdigpleekaaGreat.Cl

/- Walks of zzFits1, zzFits2, mapShort, claimShort, claimList, slices.Contains over strings: what the laws need of them; no conditions but what can be held. -/
set_option linter.unusedVariables false
set_option linter.unusedSimpArgs false
namespace Go.Proofs.YtapjbdigpleekaaGreat.Cl
open Go.RowKit Go.Proofs.YtapjbdigpleekaaGreat.K
def SomeB (w : World) (p : Prop) (e : Ending) (w' : World) : Prop := ∃ r, e = .returned (.bool r) ∧ (r = true → p) ∧ Below w.heap.size w w'
set_option maxRecDepth 100000 in
set_option maxHeartbeats 1000000 in
theorem zzFits2_calls (w : World) (A : Option Addr) (n c : Nat) (l : List ByteArray) (h : SL w A n l) :
    Calls Tryz.prog 14 #[.slice A n c] w (SomeB w (n ≤ 2147483647)) := by
  have HLN := Lib.hid h.len
  by_cases hb : 2147483647 < n
  · have hbi : (2147483647 : Int) < (n : Int) := by omega
    go_enter Tryz.func14, Tryz.ntmps14
    go_wp2
    go_ret
    exact ⟨false, rfl, (fun h => by cases h), Below.refl _ _⟩
  have hbi : ¬ (2147483647 : Int) < (n : Int) := by omega
  go_enter Tryz.func14, Tryz.ntmps14
  go_wp2
  go_loopg [10] n (fun q u wr => ∃ j : Nat, q + j = n ∧ u = .int .i64 j ∧ wr = w)
  case atStart => exact ⟨0, rfl, rfl, rfl⟩
  case round =>
    obtain ⟨j, hqj, rfl, hw⟩ := hrel
    subst hw
    by_cases hj : j < n
    · have hjl : j < l.length := by have := HLN.out; omega
      obtain ⟨ad, rfl, hc1⟩ := h.at_ hjl
      obtain ⟨x, hx⟩ : ∃ x, x = l[j] := ⟨_, rfl⟩
      rw [← hx] at hc1
      clear hx
      by_cases hxs : 2147483647 < x.size
      · have hxi : (2147483647 : Int) < (x.size : Int) := by omega
        go_wp2
        go_ret
        exact ⟨false, rfl, (fun h => by cases h), Below.refl _ _⟩
      · have hxi : ¬ (2147483647 : Int) < (x.size : Int) := by omega
        go_wp2
        go_roundg (n - (j + 1))
        case measure => omega
        case rel => exact ⟨j + 1, by omega, by go_num, rfl⟩
    · obtain rfl : j = n := by omega
      go_wp2
      go_ret
      exact ⟨true, rfl, (fun _ => by omega), Below.refl _ _⟩
set_option maxRecDepth 100000 in
set_option maxHeartbeats 1000000 in
theorem SIndex_calls (w : World) (A : Option Addr) (n c : Nat) (l : List ByteArray) (x : ByteArray) (h : SL w A n l) (hn : n ≤ 100000) :
    Calls Tryz.prog 61 #[.slice A n c, .string x] w fun e w' => (∃ i : Int, e = .returned (.int .i64 i)) ∧ w = w' := by
  have HLN := Lib.hid h.len
  go_enter Tryz.func61, Tryz.ntmps61
  go_wp2
  go_loopg [8] n (fun q u wr => ∃ j : Nat, q + j = n ∧ u = .int .i64 j ∧ wr = w)
  case atStart => exact ⟨0, rfl, rfl, rfl⟩
  case round =>
    obtain ⟨j, hqj, rfl, hw⟩ := hrel
    subst hw
    by_cases hj : j < n
    · have hjl : j < l.length := by have := HLN.out; omega
      obtain ⟨ad, rfl, hc1⟩ := h.at_ hjl
      obtain ⟨y, hy⟩ : ∃ y, y = l[j] := ⟨_, rfl⟩
      rw [← hy] at hc1
      clear hy
      cases hxy : (x.toList == y.toList) with
      | true =>
        go_wp2
        go_ret
        exact ⟨⟨_, rfl⟩, rfl⟩
      | false =>
        go_wp2
        go_roundg (n - (j + 1))
        case measure => omega
        case rel => exact ⟨j + 1, by omega, by go_num, rfl⟩
    · obtain rfl : j = n := by omega
      go_wp2
      go_ret
      exact ⟨⟨_, rfl⟩, rfl⟩
theorem SContains_calls (w : World) (A : Option Addr) (n c : Nat) (l : List ByteArray) (x : ByteArray) (h : SL w A n l) (hn : n ≤ 100000) :
    Calls Tryz.prog 22 #[.slice A n c, .string x] w fun e w' => (∃ r : Bool, e = .returned (.bool r)) ∧ w = w' := by
  have HI := Lib.hid (SIndex_calls w A n c l x h hn)
  clear h
  go_enter Tryz.func22, Tryz.ntmps22
  go_wp2_with fail
  refine HI.out.mono ?_
  rintro e w1 ⟨⟨i, rfl⟩, rfl⟩
  obtain ⟨r, hr⟩ : ∃ r, r = decide ((0 : Int) ≤ i) := ⟨_, rfl⟩
  go_wp2
  go_ret
  exact ⟨⟨_, rfl⟩, rfl⟩
end Go.Proofs.YtapjbdigpleekaaGreat.Cl

/- Walks of MapOther, mapShort, claimShort, zzFits1, claimList: what the laws need of them; no conditions but what can be held. -/
set_option linter.unusedVariables false
set_option linter.unusedSimpArgs false
namespace Go.Proofs.YtapjbdigpleekaaGreat.Cl
open Go.RowKit Go.Proofs.YtapjbdigpleekaaGreat.K
theorem six_cells {w : World} {g : Nat} {T : TypeId} {a b c d e f : Value} (h : Blk w g T #[a, b, c, d, e, f]) : w.cell? ⟨g, 0, none⟩ = some a ∧ w.cell? ⟨g, 1, none⟩ = some b ∧ w.cell? ⟨g, 2, none⟩ = some c ∧ w.cell? ⟨g, 3, none⟩ = some d ∧ w.cell? ⟨g, 4, none⟩ = some e ∧ w.cell? ⟨g, 5, none⟩ = some f :=
  ⟨by rw [h.cell]; rfl, by rw [h.cell]; rfl, by rw [h.cell]; rfl, by rw [h.cell]; rfl, by rw [h.cell]; rfl, by rw [h.cell]; rfl⟩
def AnyB (w : World) (e : Ending) (w' : World) : Prop := (∃ r : Bool, e = .returned (.bool r)) ∧ Below w.heap.size w w'
set_option maxRecDepth 100000 in
set_option maxHeartbeats 1000000 in
theorem MapOther_calls (w : World) (x : ByteArray) : Calls Tryz.prog 49 #[.int .i64 2, .string x] w (AnyB w) := by
  have HC := Lib.hid (fun (W : World) (A : Option Addr) (l : List ByteArray) (h : SL W A 4 l) => SContains_calls W A 4 4 l x h (by decide))
  have hL : ∀ (W : World) (a b c d : ByteArray), SL (W.alloc (.cells #[.string a, .string b, .string c, .string d] 9)) (some ⟨W.heap.size, 0, none⟩) 4 [a, b, c, d] := fun W a b c d => reads_lit W 1 4 [.string a, .string b, .string c, .string d] #[.string a, .string b, .string c, .string d] rfl rfl 9
  have HL := Lib.hid hL
  clear hL
  have HB := Lib.hid (fun (o : Obj) => below_alloc' (Below.refl w.heap.size w) o)
  go_enter Tryz.func49, Tryz.ntmps49
  go_wp2_with fail
  refine (HC.out _ _ _ (HL.out w _ _ _ _)).mono ?_
  rintro e w1 ⟨⟨r, rfl⟩, hw⟩
  have HB1 := Lib.hid (show Below w.heap.size w w1 by rw [← hw]; exact HB.out _)
  clear hw
  cases r with
  | false =>
    go_wp2
    go_ret
    exact ⟨⟨_, rfl⟩, HB1.out⟩
  | true =>
    go_wp2
    go_ret
    exact ⟨⟨_, rfl⟩, HB1.out⟩
set_option maxRecDepth 100000 in
set_option maxHeartbeats 4000000 in
theorem mapShort_calls (w : World) (g : Nat) (x : ByteArray) (k : Int) (t : ByteArray) (b : Bool) (z : Int) (A : Option Addr) (n c : Nat) (l : List ByteArray) (hx : ¬ 100 < x.size)
    (hb : Blk w g 45 #[.string x, .int .i64 k, .string t, .bool b, .int .i32 z, .slice A n c]) (h : SL w A n l) (hn : n ≤ 2147483647) :
    Calls Tryz.prog 16 #[.int .i64 2, .slice (some ⟨g, 0, none⟩) 1 1] w (SomeB w (n ≤ 20)) := by
  have HK := Lib.hid hb
  have HL := Lib.hid h
  have HLN := Lib.hid h.len
  have HM := Lib.hid (fun (W : World) => MapOther_calls W x)
  have hxi : ¬ (100 : Int) < (x.size : Int) := by omega
  clear hb h
  go_enter Tryz.func16, Tryz.ntmps16
  go_wp2
  go_loopg [14] 1 (fun q u wr => ∃ j : Nat, q + j = 1 ∧ u = .int .i64 j ∧ Hid (j = 1 → n ≤ 20) ∧ Hid (Below w.heap.size w wr))
  case atStart => exact ⟨0, rfl, rfl, (fun h => by cases h), Below.refl _ _⟩
  case round =>
    obtain ⟨j, hqj, rfl, hj20, HB⟩ := hrel
    rcases (by omega : j = 0 ∨ j = 1) with rfl | rfl
    · obtain ⟨y0, y1, y2, y3, y4, y5⟩ := six_cells (HK.out.below HB.out HK.out.lt)
      have HB2 := Lib.hid (below_alloc' HB.out (.cells #[.string x, .int .i64 k, .string t, .bool b, .int .i32 z, .slice A n c] 45))
      by_cases h1 : 200 < t.size
      · have h1i : (200 : Int) < (t.size : Int) := by omega
        go_wp2
        go_ret
        exact ⟨false, rfl, (fun h => by cases h), HB2.out⟩
      have h1i : ¬ (200 : Int) < (t.size : Int) := by omega
      by_cases h2 : 20 < n
      · have h2i : (20 : Int) < (n : Int) := by omega
        go_wp2
        go_ret
        exact ⟨false, rfl, (fun h => by cases h), HB2.out⟩
      have h2i : ¬ (20 : Int) < (n : Int) := by omega
      by_cases h3 : k < 0
      · go_wp2
        go_ret
        exact ⟨false, rfl, (fun h => by cases h), HB2.out⟩
      by_cases h4 : 3 < k
      · go_wp2
        go_ret
        exact ⟨false, rfl, (fun h => by cases h), HB2.out⟩
      go_wp2_with fail
      refine (HM.out _).mono ?_
      rintro e w2 ⟨⟨r, rfl⟩, hB3⟩
      have HB3 := Lib.hid (HB2.out.trans (hB3.mono HB2.out.size))
      have HKF : Hid (Blk w2 wr.heap.size 45 #[.string x, .int .i64 k, .string t, .bool b, .int .i32 z, .slice A n c]) := Lib.hid ((Blk.new wr _ _).below hB3 (Blk.new wr _ _).lt)
      have HL3 := Lib.hid (HL.out.below HB3.out (Nat.le_refl _))
      clear hB3 y0 y1 y2 y3 y4 y5
      cases r with
      | true =>
        go_wp2
        go_ret
        exact ⟨false, rfl, (fun h => by cases h), HB3.out⟩
      | false =>
        obtain ⟨y0, y1, y2, y3, y4, y5⟩ := six_cells HKF.out
        go_wp2
        go_loopg [58] n (fun q u wr2 => ∃ i : Nat, q + i = n ∧ u = .int .i64 i ∧ wr2 = w2)
        case atStart => exact ⟨0, rfl, rfl, rfl⟩
        case round =>
          obtain ⟨i, hqi, rfl, hw2⟩ := hrel
          subst hw2
          by_cases hi : i < n
          · have hil : i < l.length := by have := HLN.out; omega
            obtain ⟨ad, rfl, hc1⟩ := HL3.out.at_ hil
            obtain ⟨v, hv⟩ : ∃ v, v = l[i] := ⟨_, rfl⟩
            rw [← hv] at hc1
            clear hv
            by_cases hvs : 200 < v.size
            · have hvi : (200 : Int) < (v.size : Int) := by omega
              go_wp2
              go_ret
              exact ⟨false, rfl, (fun h => by cases h), HB3.out⟩
            · have hvi : ¬ (200 : Int) < (v.size : Int) := by omega
              go_wp2
              go_roundg (n - (i + 1))
              case measure => omega
              case rel => exact ⟨i + 1, by omega, by go_num, rfl⟩
          · obtain rfl : i = n := by omega
            go_wp2
            go_roundg 0
            case measure => omega
            case rel => exact ⟨1, by omega, by go_num, (fun _ => by omega), HB3⟩
    · go_wp2
      go_ret
      exact ⟨true, rfl, (fun _ => by first | exact hj20.out rfl | exact hj20.out trivial), HB.out⟩
set_option maxRecDepth 100000 in
set_option maxHeartbeats 1000000 in
theorem zzFits1_calls (w : World) (k : Int) (t : ByteArray) (b : Bool) (z : Int) (A : Option Addr) (n c : Nat) (l : List ByteArray) (h : SL w A n l) :
    Calls Tryz.prog 32 #[plainV k t b z A n c] w (SomeB w (n ≤ 2147483647)) := by
  have hB1 := below_alloc' (Below.refl w.heap.size w) (.cells #[.int .i64 k, .string t, .bool b, .int .i32 z, .slice A n c] 43)
  have HB1 := Lib.hid hB1
  have HF := Lib.hid (zzFits2_calls _ A n c l (h.below hB1 (Nat.le_refl _)))
  clear hB1 h
  by_cases h1 : 2147483647 < t.size
  · have h1i : (2147483647 : Int) < (t.size : Int) := by omega
    go_enter Tryz.func32, Tryz.ntmps32
    go_wp2
    go_ret
    exact ⟨false, rfl, (fun h => by cases h), HB1.out⟩
  have h1i : ¬ (2147483647 : Int) < (t.size : Int) := by omega
  go_enter Tryz.func32, Tryz.ntmps32
  go_wp2_with fail
  with_reducible refine Calls.mono HF.out ?_
  rintro e w1 ⟨r, rfl, hr, hB2⟩
  have HR := Lib.hid (And.intro hr (HB1.out.trans (hB2.mono HB1.out.size)))
  clear hr hB2
  cases r with
  | false =>
    go_wp2
    go_ret
    exact ⟨false, rfl, (fun h => by cases h), HR.out.2⟩
  | true =>
    go_wp2
    go_ret
    exact ⟨true, rfl, (fun _ => by first | exact HR.out.1 rfl | exact HR.out.1 trivial), HR.out.2⟩
end Go.Proofs.YtapjbdigpleekaaGreat.Cl

/- Walks of zzFits5, zzFits4, mapShort over fields, slices.Clone over fields; no conditions but what can be held. -/
set_option linter.unusedVariables false
set_option linter.unusedSimpArgs false
namespace Go.Proofs.YtapjbdigpleekaaGreat.Cl
open Go.RowKit Go.Proofs.YtapjbdigpleekaaGreat.K
set_option maxRecDepth 100000 in
set_option maxHeartbeats 1000000 in
theorem zzFits5_calls (w : World) (nm : ByteArray) (k : Int) (t : ByteArray) (b : Bool) (z : Int) (A : Option Addr) (n c : Nat) (l : List ByteArray) (h : SL w A n l) :
    Calls Tryz.prog 48 #[.agg #[.string nm, .int .i64 k, .string t, .bool b, .int .i32 z, .slice A n c]] w (AnyB w) := by
  have hB1 := below_alloc' (Below.refl w.heap.size w) (.cells #[.string nm, .int .i64 k, .string t, .bool b, .int .i32 z, .slice A n c] 45)
  have HB1 := Lib.hid hB1
  have HF := Lib.hid (zzFits1_calls _ k t b z A n c l (h.below hB1 (Nat.le_refl _)))
  clear hB1 h
  by_cases h1 : 2147483647 < nm.size
  · have h1i : (2147483647 : Int) < (nm.size : Int) := by omega
    go_enter Tryz.func48, Tryz.ntmps48
    go_wp2
    go_ret
    exact ⟨⟨_, rfl⟩, HB1.out⟩
  have h1i : ¬ (2147483647 : Int) < (nm.size : Int) := by omega
  go_enter Tryz.func48, Tryz.ntmps48
  go_wp2_with fail
  with_reducible refine Calls.mono HF.out ?_
  rintro e w1 ⟨r, rfl, _, hB2⟩
  have HB2 := Lib.hid (HB1.out.trans (hB2.mono HB1.out.size))
  clear hB2
  cases r with
  | false =>
    go_wp2
    go_ret
    exact ⟨⟨_, rfl⟩, HB2.out⟩
  | true =>
    go_wp2
    go_ret
    exact ⟨⟨_, rfl⟩, HB2.out⟩
set_option maxRecDepth 100000 in
set_option maxHeartbeats 1000000 in
theorem zzFits4_calls (w : World) (A : Option Addr) (n c : Nat) (fs : List Fd) (h : FL w A n fs) :
    Calls Tryz.prog 13 #[.slice A n c] w (AnyB w) := by
  have HF := Lib.hid h
  have HLN := Lib.hid h.len
  clear h
  by_cases hb : 2147483647 < n
  · have hbi : (2147483647 : Int) < (n : Int) := by omega
    go_enter Tryz.func13, Tryz.ntmps13
    go_wp2
    go_ret
    exact ⟨⟨_, rfl⟩, Below.refl _ _⟩
  have hbi : ¬ (2147483647 : Int) < (n : Int) := by omega
  go_enter Tryz.func13, Tryz.ntmps13
  go_wp2
  go_loopg [10] n (fun q u wr => ∃ j : Nat, q + j = n ∧ u = .int .i64 j ∧ Hid (Below w.heap.size w wr))
  case atStart => exact ⟨0, rfl, rfl, Below.refl _ _⟩
  case round =>
    obtain ⟨j, hqj, rfl, HB⟩ := hrel
    by_cases hj : j < n
    · have hjl : j < fs.length := by have := HLN.out; omega
      obtain ⟨ad, rfl, y0, y1, y2, y3, y4, y5, hsl⟩ := (HF.out.below HB.out (Nat.le_refl _)).at_ hjl
      obtain ⟨f, hf⟩ : ∃ f, f = fs[j] := ⟨_, rfl⟩
      rw [← hf] at y0 y1 y2 y3 y4 y5 hsl
      obtain ⟨nm, k, t, b, z, A1, n1, c1, l1⟩ := f
      simp only at y0 y1 y2 y3 y4 y5 hsl
      clear hf
      have hB1 := below_alloc' (Below.refl wr.heap.size wr) (.cells #[.string nm, .int .i64 k, .string t, .bool b, .int .i32 z, .slice A1 n1 c1] 45)
      have HZ := Lib.hid (zzFits5_calls _ nm k t b z A1 n1 c1 l1 (hsl.below hB1 (Nat.le_refl _)))
      have HB1 := Lib.hid (below_then HB.out hB1)
      clear hB1 hsl
      go_wp2_with fail
      with_reducible refine Calls.mono HZ.out ?_
      rintro e w2 ⟨⟨r, rfl⟩, hB2⟩
      have HB2 := Lib.hid (HB1.out.trans (hB2.mono HB1.out.size))
      clear hB2 HZ
      cases r with
      | false =>
        go_wp2
        go_ret
        exact ⟨⟨_, rfl⟩, HB2.out⟩
      | true =>
        go_wp2
        go_roundg (n - (j + 1))
        case measure => omega
        case rel => exact ⟨j + 1, by omega, by go_num, HB2⟩
    · obtain rfl : j = n := by omega
      go_wp2
      go_ret
      exact ⟨⟨_, rfl⟩, HB.out⟩
def ShortP (n : Nat) (fs : List Fd) : Prop := n ≤ 100 ∧ ∀ f ∈ fs, f.n ≤ 20
set_option maxRecDepth 100000 in
set_option maxHeartbeats 4000000 in
theorem mapShortL_calls (w : World) (A : Option Addr) (n c : Nat) (fs : List Fd) (h : FL w A n fs) :
    Calls Tryz.prog 16 #[.int .i64 2, .slice A n c] w (SomeB w (ShortP n fs)) := by
  have HF := Lib.hid h
  have HLN := Lib.hid h.len
  have HM := Lib.hid (fun (W : World) (x : ByteArray) => MapOther_calls W x)
  clear h
  by_cases hb : 100 < n
  · have hbi : (100 : Int) < (n : Int) := by omega
    go_enter Tryz.func16, Tryz.ntmps16
    go_wp2
    go_ret
    exact ⟨false, rfl, (fun h => by cases h), Below.refl _ _⟩
  have hbi : ¬ (100 : Int) < (n : Int) := by omega
  go_enter Tryz.func16, Tryz.ntmps16
  go_wp2
  go_loopg [14] n (fun q u wr => ∃ j : Nat, q + j = n ∧ u = .int .i64 j ∧ Hid (∀ f ∈ fs.take j, f.n ≤ 20) ∧ Hid (Below w.heap.size w wr))
  case atStart => exact ⟨0, rfl, rfl, (by intro f hf; simp at hf), Below.refl _ _⟩
  case round =>
    obtain ⟨j, hqj, rfl, HJ, HB⟩ := hrel
    by_cases hj : j < n
    · have hjl : j < fs.length := by have := HLN.out; omega
      obtain ⟨ad, rfl, y0, y1, y2, y3, y4, y5, hsl⟩ := (HF.out.below HB.out (Nat.le_refl _)).at_ hjl
      have hst : ∀ f ∈ fs.take (j + 1), f ∈ fs.take j ∨ f = fs[j] := fun f hf => by
        rw [List.take_succ_eq_append_getElem hjl, List.mem_append, List.mem_singleton] at hf; exact hf
      obtain ⟨f, hf⟩ : ∃ f, f = fs[j] := ⟨_, rfl⟩
      rw [← hf] at y0 y1 y2 y3 y4 y5 hsl hst
      obtain ⟨nm, k, t, b, z, A1, n1, c1, l1⟩ := f
      simp only at y0 y1 y2 y3 y4 y5 hsl
      have HST := Lib.hid hst
      clear hf hst
      have HSL := Lib.hid hsl
      have HL1 := Lib.hid hsl.len
      have HB2 := Lib.hid (below_alloc' HB.out (.cells #[.string nm, .int .i64 k, .string t, .bool b, .int .i32 z, .slice A1 n1 c1] 45))
      clear hsl
      by_cases h0 : 100 < nm.size
      · have h0i : (100 : Int) < (nm.size : Int) := by omega
        go_wp2
        go_ret
        exact ⟨false, rfl, (fun h => by cases h), HB2.out⟩
      have h0i : ¬ (100 : Int) < (nm.size : Int) := by omega
      by_cases h1 : 200 < t.size
      · have h1i : (200 : Int) < (t.size : Int) := by omega
        go_wp2
        go_ret
        exact ⟨false, rfl, (fun h => by cases h), HB2.out⟩
      have h1i : ¬ (200 : Int) < (t.size : Int) := by omega
      by_cases h2 : 20 < n1
      · have h2i : (20 : Int) < (n1 : Int) := by omega
        go_wp2
        go_ret
        exact ⟨false, rfl, (fun h => by cases h), HB2.out⟩
      have h2i : ¬ (20 : Int) < (n1 : Int) := by omega
      by_cases h3 : k < 0
      · go_wp2
        go_ret
        exact ⟨false, rfl, (fun h => by cases h), HB2.out⟩
      by_cases h4 : 3 < k
      · go_wp2
        go_ret
        exact ⟨false, rfl, (fun h => by cases h), HB2.out⟩
      go_wp2_with fail
      refine (HM.out _ _).mono ?_
      rintro e w2 ⟨⟨r, rfl⟩, hB3⟩
      have HB3 := Lib.hid (HB2.out.trans (hB3.mono HB2.out.size))
      have HKF : Hid (Blk w2 wr.heap.size 45 #[.string nm, .int .i64 k, .string t, .bool b, .int .i32 z, .slice A1 n1 c1]) := Lib.hid ((Blk.new wr _ _).below hB3 (Blk.new wr _ _).lt)
      have HL3 := Lib.hid ((HSL.out.below (below_alloc' (Below.refl wr.heap.size wr) (.cells #[.string nm, .int .i64 k, .string t, .bool b, .int .i32 z, .slice A1 n1 c1] 45)) (Nat.le_refl _)).below hB3 (Nat.le_refl _))
      clear hB3 y0 y1 y2 y3 y4 y5
      cases r with
      | true =>
        go_wp2
        go_ret
        exact ⟨false, rfl, (fun h => by cases h), HB3.out⟩
      | false =>
        obtain ⟨y0, y1, y2, y3, y4, y5⟩ := six_cells HKF.out
        go_wp2
        go_loopg [58] n1 (fun q u wr2 => ∃ i : Nat, q + i = n1 ∧ u = .int .i64 i ∧ wr2 = w2)
        case atStart => exact ⟨0, rfl, rfl, rfl⟩
        case round =>
          obtain ⟨i, hqi, rfl, hw2⟩ := hrel
          subst hw2
          by_cases hi : i < n1
          · have hil : i < l1.length := by have := HL1.out; omega
            obtain ⟨ae, rfl, hc1⟩ := HL3.out.at_ hil
            obtain ⟨v, hv⟩ : ∃ v, v = l1[i] := ⟨_, rfl⟩
            rw [← hv] at hc1
            clear hv
            by_cases hvs : 200 < v.size
            · have hvi : (200 : Int) < (v.size : Int) := by omega
              go_wp2
              go_ret
              exact ⟨false, rfl, (fun h => by cases h), HB3.out⟩
            · have hvi : ¬ (200 : Int) < (v.size : Int) := by omega
              go_wp2
              go_roundg (n1 - (i + 1))
              case measure => omega
              case rel => exact ⟨i + 1, by omega, by go_num, rfl⟩
          · obtain rfl : i = n1 := by omega
            go_wp2
            go_roundg (n - (j + 1))
            case measure => omega
            case rel =>
              refine ⟨j + 1, by omega, by go_num, ?_, HB3⟩
              intro f hf
              rcases HST.out f hf with h | h
              · exact HJ.out f h
              · rw [h]; show i ≤ 20; omega
    · obtain rfl : j = n := by omega
      have hfin : ∀ f ∈ fs, f.n ≤ 20 := by
        have := HJ.out
        rwa [List.take_of_length_le (by have := HLN.out; omega)] at this
      have HFI := Lib.hid hfin
      clear hfin HJ
      go_wp2
      go_ret
      exact ⟨true, rfl, (fun _ => ⟨by omega, HFI.out⟩), HB.out⟩
end Go.Proofs.YtapjbdigpleekaaGreat.Cl
