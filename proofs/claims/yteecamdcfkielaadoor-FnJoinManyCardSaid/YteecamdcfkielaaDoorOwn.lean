/- Walks of the small helpers on bytes: partOwn, partShort, PartSame, bytes.Clone; the only conditions are on sizes. -/
import Derived.Test.YteecamdcfkielaaDoorK
import Derived.Test.YteecamdcfkielaaDoorProg
set_option linter.unusedVariables false
set_option linter.unusedSimpArgs false
namespace Go.Proofs.YteecamdcfkielaaDoor.Own
open Go.RowKit Go.Proofs.YteecamdcfkielaaDoor.K
theorem info_u8 : (Tryd.prog.info? 5).map (fun i => (i.zero, i.size, i.bytes)) = some (some (.int .u8 0), 1, 1) := by kernel_rfl
/-- A row of bytes of the call's own. -/
def OwnB (base : Nat) (w : World) (v : Value) (l : List UInt8) : Prop := ∃ A c, v = .slice A l.length c ∧ l.length ≤ c ∧ w.ownsRow base 5 1 (.slice A l.length c) l.length (bys l)
theorem OwnB.mk {base : Nat} {w : World} {v : Value} {l : List UInt8} {n : Nat} (h : w.ownsRow base 5 1 v n (bys l)) : OwnB base w v l := by
  have hl : n = l.length := by have := h.1; simp [bys] at this; omega
  subst hl
  obtain ⟨A, c, rfl, hc, _⟩ := own_form h
  exact ⟨A, c, rfl, hc, h⟩
/-- Bytes that are read. -/
def RB (w : World) (A : Option Addr) (n : Nat) (l : List UInt8) : Prop := Reads w 1 A n (bys l)
theorem RB.len {w : World} {A : Option Addr} {n : Nat} {l : List UInt8} (h : RB w A n l) : n = l.length := by have := h.1; simp [bys] at this; omega
theorem RB.at_ {w : World} {A : Option Addr} {n : Nat} {l : List UInt8} (h : RB w A n l) {k : Nat} (hk : k < l.length) : ∃ ad, A = some ad ∧ w.cell? (ad.add k) = some (.int .u8 (l[k]'hk).toNat) := by
  obtain ⟨ad, e, _, hc⟩ := h.2 (by rw [h.len]; omega)
  exact ⟨ad, e, hc k _ (bys_get l k hk)⟩
/-- The byte at k. -/
def bt (l : List UInt8) (k : Nat) : UInt8 := l.getD k 0
theorem bt_get (l : List UInt8) (k : Nat) (h : k < l.length) : bt l k = l[k] := by simp [bt, h]
theorem bt_lt (l : List UInt8) (k : Nat) : (bt l k).toNat < 256 := (bt l k).toNat_lt
theorem RB.bt {w : World} {A : Option Addr} {n : Nat} {l : List UInt8} (h : RB w A n l) {k : Nat} (hk : k < n) : ∃ ad, A = some ad ∧ w.cell? (ad.add k) = some (.int .u8 (bt l k).toNat) := by
  obtain ⟨ad, e, hc⟩ := h.at_ (k := k) (by rw [← h.len]; exact hk)
  exact ⟨ad, e, by rw [bt_get]; exact hc⟩
theorem RB.below {w w' : World} {A : Option Addr} {n : Nat} {l : List UInt8} {B : Nat} (h : RB w A n l) (hb : Below B w w') (hB : w.heap.size ≤ B) : RB w' A n l := Reads.below h hb hB
theorem OwnB.reads {base : Nat} {w : World} {A : Option Addr} {n c : Nat} {l : List UInt8} (h : OwnB base w (.slice A n c) l) : RB w A n l ∧ n = l.length ∧ n ≤ c := by
  obtain ⟨A', c', hv, hc, ho⟩ := h
  injection hv with h1 h2 h3
  subst h1 h2 h3
  exact ⟨Reads.of_own ho, rfl, hc⟩
/-- A literal of bytes. -/
theorem rb_lit (w : World) (l : List UInt8) (n : Nat) (cs : Array Value) (h : cs.toList = bys l) (hn : n = l.length) (o : TypeId) : RB (w.alloc (.cells cs o)) (some ⟨w.heap.size, 0, none⟩) n l := by
  subst hn
  have hs : cs.size = l.length := by rw [← Array.length_toList, h, bys_length]
  have := (Blk.new w o cs).reads 1 l.length 0 (by omega)
  simp only [Nat.zero_mul, List.drop_zero, Nat.mul_one] at this
  rw [h, List.take_of_length_le (by rw [bys_length]; omega)] at this
  exact this
set_option maxHeartbeats 400000 in
theorem partOwn_calls (w : World) (A : Option Addr) (l : List UInt8) (n c : Nat) (h : RB w A n l) (hn : n ≤ 140737488355328) :
    Calls Tryd.prog 7 #[.slice A n c] w fun e w' => ∃ v, e = .returned v ∧ OwnB w.heap.size w' v l ∧ Below w.heap.size w w' := by
  obtain ⟨i0, hi, hz0, hz1, hz2⟩ := info_parts info_u8
  go_enter Tryd.func7, Tryd.ntmps7
  go_wp2_with (first
    | (at_builtin; refine wpList_append_any _ rfl (.tmp 3) (.tmp 4) 23 rfl w.heap.size 5 i0 (.int .u8 0) 1 1 Tryd.underlying23 hi hz0 hz1 hz2 rfl (by decide) _ 0 [] rfl (own_empty w 5 1) A n c (bys l) rfl ?hr (bys_one l) ?h63 ?hb ?hbase ?_))
  case hr => exact h.below ((Below.refl w.heap.size w).alloc (Nat.le_refl _) _) (Nat.le_refl _)
  case h63 => unfold maxLen; omega
  case hb => omega
  case hbase => simp
  · intro v' w1 hown hg hat
    go_wp2
    go_ret
    exact ⟨v', rfl, .mk hown, ((Below.refl w.heap.size w).alloc (Nat.le_refl _) _).grown hg (by simp) (by intro k hk; simp [Value.ownBlock] at hk; omega)⟩
set_option maxHeartbeats 400000 in
theorem Clone_calls (w : World) (A : Option Addr) (l : List UInt8) (n c : Nat) (h : RB w A n l) (hn : n ≤ 140737488355328) :
    Calls Tryd.prog 14 #[.slice A n c] w fun e w' => ∃ v, e = .returned v ∧ OwnB w.heap.size w' v l ∧ Below w.heap.size w w' := by
  obtain ⟨i0, hi, hz0, hz1, hz2⟩ := info_parts info_u8
  have hnil := fun W : World => Lib.run_eql_slice_nil (P := Tryd.prog) W 23 5 A n c 0 0 Tryd.underlying23
  rcases A with _ | ad
  · have h0 : l = [] := by
      rcases Nat.eq_zero_or_pos n with h0 | h0
      · exact List.eq_nil_of_length_eq_zero (by rw [← h.len]; exact h0)
      · obtain ⟨_, h1, _⟩ := h.2 h0
        cases h1
    subst h0
    go_enter Tryd.func14, Tryd.ntmps14
    go_wp2
    go_ret
    exact ⟨_, rfl, ⟨none, 0, rfl, Nat.le_refl _, World.ownsRow_nil _ _ _ _⟩, Below.refl _ _⟩
  · go_enter Tryd.func14, Tryd.ntmps14
    go_wp2_with (first
      | (at_builtin; refine wpList_append_any _ rfl (.tmp 5) (.tmp 6) 23 rfl w.heap.size 5 i0 (.int .u8 0) 1 1 Tryd.underlying23 hi hz0 hz1 hz2 rfl (by decide) _ 0 [] rfl (own_empty w 5 1) (some ad) n c (bys l) rfl ?hr (bys_one l) ?h63 ?hb ?hbase ?_))
    case hr => exact h.below ((Below.refl w.heap.size w).alloc (Nat.le_refl _) _) (Nat.le_refl _)
    case h63 => unfold maxLen; omega
    case hb => omega
    case hbase => simp
    · intro v' w1 hown hg hat
      go_wp2
      go_ret
      exact ⟨v', rfl, .mk hown, ((Below.refl w.heap.size w).alloc (Nat.le_refl _) _).grown hg (by simp) (by intro k hk; simp [Value.ownBlock] at hk; omega)⟩
set_option maxHeartbeats 400000 in
theorem PartSame_calls (w : World) (A B : Option Addr) (l m : List UInt8) (n c k d : Nat) (h : RB w A n l) (h' : RB w B k m) :
    Calls Tryd.prog 12 #[.slice A n c, .slice B k d] w fun e w' => e = .returned (.bool (l == m)) ∧ w = w' := by
  have h1 := conv_string (P := Tryd.prog) (c := c) Tryd.underlying23 Tryd.underlying5 Tryd.underlying9 h
  have h2 := conv_string (P := Tryd.prog) (c := d) Tryd.underlying23 Tryd.underlying5 Tryd.underlying9 h'
  go_enter Tryd.func12, Tryd.ntmps12
  go_wp2
  go_ret
  exact ⟨by simp, rfl⟩
/-- Slice values. -/
def slv (x : Option Addr × Nat × Nat) : Value := .slice x.1 x.2.1 x.2.2
theorem rs_lit (w : World) (xs : List Value) (n : Nat) (cs : Array Value) (h : cs.toList = xs) (hn : n = xs.length) (o : TypeId) : Reads (w.alloc (.cells cs o)) 1 (some ⟨w.heap.size, 0, none⟩) n xs := by
  subst hn
  have hs : cs.size = xs.length := by rw [← Array.length_toList, h]
  have := (Blk.new w o cs).reads 1 xs.length 0 (by omega)
  simp only [Nat.zero_mul, List.drop_zero, Nat.mul_one] at this
  rw [h, List.take_of_length_le (by omega)] at this
  exact this
end Go.Proofs.YteecamdcfkielaaDoor.Own
