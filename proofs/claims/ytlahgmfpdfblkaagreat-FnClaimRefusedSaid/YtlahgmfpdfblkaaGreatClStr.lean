/- Walks of slices.Clone and slices.Equal over strings, impl.value, StringList.Accept; the conditions are on sizes alone. -/
import Derived.Test.YtlahgmfpdfblkaaGreatK
import Derived.Test.YtlahgmfpdfblkaaGreatProg
import Derived.Lib.LazyBuf
import Derived.Great.Walk
import Derived.StillTailTactics
set_option linter.unusedVariables false
set_option linter.unusedSimpArgs false
namespace Go.Proofs.YtlahgmfpdfblkaaGreat.Cl
open Go.RowKit Go.Proofs.YtlahgmfpdfblkaaGreat.K
def strs (l : List ByteArray) : List Value := l.map Value.string
theorem strs_one (l : List ByteArray) : ∀ u ∈ strs l, u.oneCell' = true := by
  intro u hu
  obtain ⟨s, _, rfl⟩ := List.mem_map.1 hu
  rfl
theorem strs_len (l : List ByteArray) : (strs l).length = l.length := by simp [strs]
theorem info_str : (Tryz.prog.info? 9).map (fun i => (i.zero, i.size, i.bytes)) = some (some (.string ByteArray.empty), 1, 16) := by kernel_rfl
/-- A slice of strings that reads as l. -/
def SL (w : World) (A : Option Addr) (n : Nat) (l : List ByteArray) : Prop := Reads w 1 A n (strs l)
theorem str_ne {x y : ByteArray} (h : x ≠ y) : (x.toList == y.toList) = false := by
  rw [beq_eq_false_iff_ne]
  intro e
  rw [ByteArray.toList_eq, ByteArray.toList_eq] at e
  exact h (Go.WideShapes.bytes_inj e)
theorem SL.len {w : World} {A : Option Addr} {n : Nat} {l : List ByteArray} (h : SL w A n l) : n = l.length := by have := h.1; simp [strs] at this; omega
theorem SL.below {w w' : World} {A : Option Addr} {n : Nat} {l : List ByteArray} {B : Nat} (h : SL w A n l) (hb : Below B w w') (hB : w.heap.size ≤ B) : SL w' A n l := Reads.below h hb hB
theorem SL.at_ {w : World} {A : Option Addr} {n k : Nat} {l : List ByteArray} (h : SL w A n l) (hk : k < l.length) : ∃ ad, A = some ad ∧ w.cell? (ad.add k) = some (.string l[k]) := by
  have hn := h.len
  obtain ⟨ad, u, rfl, hu, hc⟩ := Reads.at_ h (show k < n by omega)
  refine ⟨ad, rfl, ?_⟩
  rw [hc, ← hu]
  simp [strs, hk]
theorem below_then {w w1 w2 : World} (h : Below w.heap.size w w1) (k : Below w1.heap.size w1 w2) : Below w.heap.size w w2 := h.trans (k.mono h.size)
def ClonePost (w : World) (A : Option Addr) (n : Nat) (l : List ByteArray) (e : Ending) (w' : World) : Prop :=
  ∃ A' c', e = .returned (.slice A' n c') ∧ SL w' A' n l ∧ Below w.heap.size w w'
set_option maxHeartbeats 400000 in
theorem SClone_calls (w : World) (A : Option Addr) (l : List ByteArray) (n c : Nat) (h : SL w A n l) (hn : n ≤ 100000) :
    Calls Tryz.prog 20 #[.slice A n c] w (ClonePost w A n l) := by
  obtain ⟨i0, hi, hz0, hz1, hz2⟩ := info_parts info_str
  have hnil := fun W : World => Lib.run_eql_slice_nil (P := Tryz.prog) W 23 9 A n c 0 0 Tryz.underlying23
  rcases A with _ | ad
  · have h0 : n = 0 := by
      rcases Nat.eq_zero_or_pos n with h0 | h0
      · exact h0
      · obtain ⟨_, h1, _⟩ := h.2 h0
        cases h1
    subst h0
    have HL := Lib.hid h
    clear h
    go_enter Tryz.func20, Tryz.ntmps20
    go_wp2
    go_ret
    exact ⟨none, 0, rfl, HL.out, Below.refl _ _⟩
  · go_enter Tryz.func20, Tryz.ntmps20
    go_wp2_with (first
      | (at_builtin; refine wpList_append_any _ rfl (.tmp 5) (.tmp 6) 23 rfl w.heap.size 9 i0 (.string ByteArray.empty) 1 16 Tryz.underlying23 hi hz0 hz1 hz2 rfl (by decide) _ 0 [] rfl (own_empty w 9 1) (some ad) n c (strs l) rfl ?hr (strs_one l) ?h63 ?hb ?hbase ?_))
    case hr => exact h.below ((Below.refl w.heap.size w).alloc (Nat.le_refl _) _) (Nat.le_refl _)
    case h63 => unfold maxLen; omega
    case hb => omega
    case hbase => simp
    · intro v' w1 hown hg hat
      go_wp2
      go_ret
      obtain ⟨A', c', rfl, _, hr⟩ := own_form hown
      exact ⟨A', c', rfl, hr, ((Below.refl w.heap.size w).alloc (Nat.le_refl _) _).grown hg (by simp) (by intro k hk; simp [Value.ownBlock] at hk; omega)⟩
set_option maxHeartbeats 1000000 in
theorem SEqual_calls (w : World) (A B : Option Addr) (l m : List ByteArray) (n c k d : Nat) (h : SL w A n l) (h' : SL w B k m) (hn : n ≤ 100000) (hk : k ≤ 100000) (r : Bool) (hr : decide (l = m) = r) :
    Calls Tryz.prog 15 #[.slice A n c, .slice B k d] w fun e w' => e = .returned (.bool r) ∧ Below w.heap.size w w' := by
  have HLN := Lib.hid (And.intro h.len h'.len)
  have HR := Lib.hid hr
  clear hr
  by_cases hnk : n = k
  · subst hnk
    go_enter Tryz.func15, Tryz.ntmps15
    go_wp2
    go_loopg [13] n (fun q u13 wr => ∃ j : Nat, q + j = n ∧ u13 = .int .i64 j ∧ Hid (l.take j = m.take j) ∧ Hid (Below w.heap.size w wr))
    case atStart => exact ⟨0, rfl, rfl, by simp [Hid], Below.refl _ _⟩
    case round =>
      obtain ⟨j, hqj, rfl, hE, HB⟩ := hrel
      by_cases hj : j < n
      · have hjl : j < l.length := by have := HLN.out.1; omega
        have hjm : j < m.length := by have := HLN.out.2; omega
        obtain ⟨ad, rfl, hc1⟩ := (h.below HB.out (Nat.le_refl _)).at_ hjl
        obtain ⟨bd, rfl, hc2⟩ := (h'.below HB.out (Nat.le_refl _)).at_ hjm
        obtain ⟨x, hx⟩ : ∃ x, x = l[j] := ⟨_, rfl⟩
        obtain ⟨y, hy⟩ : ∃ y, y = m[j] := ⟨_, rfl⟩
        rw [← hx] at hc1
        rw [← hy] at hc2
        have HX := Lib.hid hx
        have HY := Lib.hid hy
        clear hx hy
        by_cases hxy : x = y
        · subst hxy
          have HXY := Lib.hid (HX.out.symm.trans HY.out)
          clear HX HY
          go_wp2_with (go_quiet (fail))
          go_roundg (n - (j + 1))
          case measure => omega
          case rel =>
            refine ⟨j + 1, by omega, by go_num, ?_, Go.Proofs.YtlahgmfpdfblkaaGreat.K.below_drewN HB.out _⟩
            show _ = _
            rw [List.take_succ_eq_append_getElem hjl, List.take_succ_eq_append_getElem hjm, hE.out, HXY.out]
        · have HF : Hid (r = false) := Lib.hid (by
            rw [← HR.out]
            refine decide_eq_false fun e => hxy ?_
            subst e
            rw [HX.out, HY.out])
          clear HX HY
          have hxb : (x.toList == y.toList) = false := str_ne hxy
          go_wp2_with (go_quiet (fail))
          go_ret
          exact ⟨ret_bool HF.out.symm, Go.Proofs.YtlahgmfpdfblkaaGreat.K.below_drewN HB.out _⟩
      · obtain rfl : j = n := by omega
        have HT : Hid (r = true) := Lib.hid (by
          rw [← HR.out]
          refine decide_eq_true ?_
          have := hE.out
          rwa [List.take_of_length_le (by have := HLN.out.1; omega), List.take_of_length_le (by have := HLN.out.2; omega)] at this)
        go_wp2
        go_ret
        exact ⟨ret_bool HT.out.symm, HB.out⟩
  · have HF : Hid (r = false) := Lib.hid (by
      rw [← HR.out]
      refine decide_eq_false fun e => hnk ?_
      have := HLN.out
      subst e
      omega)
    have hb : ((n : Int) != (k : Int)) = true := by rw [bne_iff_ne]; omega
    have hnki : ¬ (n : Int) = (k : Int) := by omega
    go_enter Tryz.func15, Tryz.ntmps15
    go_wp2
    go_ret
    exact ⟨ret_bool HF.out.symm, Below.refl _ _⟩
/-- A value as data: its five fields. -/
abbrev plainV (k : Int) (t : ByteArray) (b : Bool) (z : Int) (A : Option Addr) (n c : Nat) : Value := .agg #[.int .i64 k, .string t, .bool b, .int .i32 z, .slice A n c]
/-- What Value gives for a text, for a list, for anything else. -/
def VPost (w : World) (k : Int) (t : ByteArray) (n : Nat) (l : List ByteArray) (e : Ending) (w' : World) : Prop :=
  Below w.heap.size w w' ∧ ((k = 0 ∧ e = .returned (.iface 9 (.string t))) ∨ (k = 3 ∧ ∃ a c, e = .returned (.iface 23 (.slice (some a) n c)) ∧ SL w' (some a) n l ∧ w.heap.size ≤ a.block ∧ a.block < w'.heap.size) ∨
    (k ≠ 0 ∧ k ≠ 3 ∧ ∃ v, e = .returned v ∧ (v = .nilIface ∨ (∃ b, v = .iface 4 (.bool b)) ∨ ∃ f, v = .iface 65 f)))
set_option maxHeartbeats 1000000 in
theorem value_calls (w : World) (k : Int) (t : ByteArray) (b : Bool) (z : Int) (A : Option Addr) (n c : Nat) (l : List ByteArray) (h : SL w A n l) (hn : n ≤ 100000) :
    Calls Tryz.prog 19 #[plainV k t b z A n c] w (VPost w k t n l) := by
  unfold plainV
  have HB := Lib.hid (below_alloc' (Below.refl w.heap.size w) (.cells #[.int .i64 k, .string t, .bool b, .int .i32 z, .slice A n c] 25))
  have HL := Lib.hid h
  clear h
  by_cases h0 : k = 0
  · subst h0
    go_enter Tryz.func19, Tryz.ntmps19
    go_wp2
    go_ret
    exact ⟨HB.out, Or.inl ⟨rfl, rfl⟩⟩
  have b0 : (k == 0) = false := by rw [beq_eq_false_iff_ne]; exact h0
  by_cases h1 : k = 1
  · subst h1
    go_enter Tryz.func19, Tryz.ntmps19
    go_wp2
    go_ret
    exact ⟨HB.out, Or.inr (Or.inr ⟨by decide, by decide, _, rfl, Or.inr (Or.inl ⟨_, rfl⟩)⟩)⟩
  have b1 : (k == 1) = false := by rw [beq_eq_false_iff_ne]; exact h1
  by_cases h2 : k = 2
  · subst h2
    go_enter Tryz.func19, Tryz.ntmps19
    go_wp2
    go_ret
    exact ⟨HB.out, Or.inr (Or.inr ⟨by decide, by decide, _, rfl, Or.inr (Or.inr ⟨_, rfl⟩)⟩)⟩
  have b2 : (k == 2) = false := by rw [beq_eq_false_iff_ne]; exact h2
  by_cases h3 : k = 3
  · subst h3
    obtain ⟨i0, hi, hz0, hz1, hz2⟩ := info_parts info_str
    have HO : Hid (World.ownsRow ((w.alloc (.cells #[.int .i64 3, .string t, .bool b, .int .i32 z, .slice A n c] 25)).alloc (.cells #[] 9)) w.heap.size 9 1 (.slice (some ⟨w.heap.size + 1, 0, none⟩) 0 0) 0 []) := Lib.hid (by
      have := own_base (own_empty (w.alloc (.cells #[.int .i64 3, .string t, .bool b, .int .i32 z, .slice A n c] 25)) 9 1) HB.out.size
      rwa [show (w.alloc (.cells #[.int .i64 3, .string t, .bool b, .int .i32 z, .slice A n c] 25)).heap.size = w.heap.size + 1 from by simp] at this)
    have HBB := Lib.hid (below_alloc' HB.out (.cells #[] 9))
    have HL2 := Lib.hid (HL.out.below HBB.out (Nat.le_refl _))
    go_enter Tryz.func19, Tryz.ntmps19
    go_wp2_with (at_builtin; refine wpList_append_any _ rfl (.tmp 23) (.tmp 25) 23 rfl w.heap.size 9 i0 (.string ByteArray.empty) 1 16 Tryz.underlying23 hi hz0 hz1 hz2 rfl (by decide) (.slice (some ⟨w.heap.size + 1, 0, none⟩) 0 0) 0 [] rfl HO.out A n c (strs l) rfl HL2.out (strs_one l) (by unfold maxLen; omega) (by omega) HBB.out.size ?_; intro v3 w3 hown hg hat; rw [Nat.zero_add] at hown; have HO3 := Lib.hid hown; have HAT := Lib.hid hat; have HG := Lib.hid hg; clear hown hg hat)
    obtain ⟨A', c', hv, _, hr⟩ := own_form HO3.out
    have hat := HAT.out
    rw [hv] at hat
    have hbl := fun a (ha : A' = some a) => HO3.out.lt a.block (by rw [hv, ha]; rfl)
    have hs : ∃ a, A' = some a := by
      cases A' with
      | some a => exact ⟨a, rfl⟩
      | none => rcases hat with h | h <;> simp [Value.ownBlock] at h
    obtain ⟨a', rfl⟩ := hs
    have HBL := Lib.hid (hbl a' rfl)
    clear hbl
    have HR := Lib.hid hr
    have HB3 := Lib.hid (HBB.out.grown HG.out HBB.out.size (by intro k hk; simp [Value.ownBlock] at hk; omega))
    clear hr hat HAT HO3
    subst hv
    go_wp2
    go_ret
    exact ⟨HB3.out, Or.inr (Or.inl ⟨rfl, _, _, rfl, HR.out, HBL.out.1, HBL.out.2⟩)⟩
  have b3 : (k == 3) = false := by rw [beq_eq_false_iff_ne]; exact h3
  go_enter Tryz.func19, Tryz.ntmps19
  go_wp2
  go_ret
  exact ⟨HB.out, Or.inr (Or.inr ⟨h0, h3, _, rfl, Or.inl rfl⟩)⟩
end Go.Proofs.YtlahgmfpdfblkaaGreat.Cl
