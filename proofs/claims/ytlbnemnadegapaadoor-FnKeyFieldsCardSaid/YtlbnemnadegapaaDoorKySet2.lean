/- Walks of a key set's methods that turn it: newSet, NewSet, AddKey, Clear, Set, Remove; the conditions are on what lies in memory. -/
import Derived.Test.YtlbnemnadegapaaDoorKySet
import Derived.Test.YtlbnemnadegapaaDoorKyMap
set_option linter.unusedVariables false
set_option linter.unusedSimpArgs false
namespace Go.Proofs.YtlbnemnadegapaaDoor.Ky
open Go.RowKit Go.Proofs.YtlbnemnadegapaaDoor.K Go.Proofs.YtlbnemnadegapaaDoor.Nm
/-- A set at g with the keys S and a map of private fields whose names are Q's. -/
def SetAt (Q : ByteArray → Prop) (base : Nat) (w : World) (g : Nat) (S : List Nat) : Prop := ∃ v m, SetK w base g v m S ∧ MapN Q w m ∧ base ≤ g ∧ base ≤ m
def badSK (T : TypeId) : Prop := T = 153 ∨ T = 87
/-- Below base nothing has turned; elsewhere sets and rows of keys alone. -/
structure Fw (base : Nat) (w w' : World) : Prop where
  low : Below base w w'
  keep : ∀ j T cs, Blk w j T cs → ¬ badSK T → Blk w' j T cs
section
variable {base : Nat} {w w1 w' : World}
theorem Fw.refl (w : World) : Fw base w w := ⟨Below.refl _ _, fun _ _ _ h _ => h⟩
theorem Fw.trans (h : Fw base w w1) (k : Fw base w1 w') : Fw base w w' := ⟨h.low.trans k.low, fun j T cs hb hT => k.keep j T cs (h.keep j T cs hb hT) hT⟩
theorem Fw.of_below (h : Below w.heap.size w w') (hb : base ≤ w.heap.size) : Fw base w w' := ⟨h.mono hb, fun j T cs hj _ => hj.below h hj.lt⟩
theorem Fw.of_fr (h : Below base w w') (k : Fr badSK w w') : Fw base w w' := ⟨h, fun j T cs hj hT => k.blk hj hT⟩
theorem Fw.drew (h : Fw base w w') : Fw base w w'.drew := ⟨h.low.drew, h.keep⟩
theorem Fw.alloc (h : Fw base w w') (hb : base ≤ w.heap.size) (o : Obj) : Fw base w (w'.alloc o) := ⟨h.low.alloc (Nat.le_trans hb h.low.size) o, fun j T cs hj hT => (h.keep j T cs hj hT).alloc o⟩
end
section
variable {Q : ByteArray → Prop} {base g : Nat} {w w' : World} {S : List Nat}
theorem SetAt.below (h : SetAt Q base w g S) (hb : Below w.heap.size w w') : SetAt Q base w' g S := by
  obtain ⟨v, m, ⟨h1, h2⟩, h3, h4⟩ := h
  exact ⟨v, m, ⟨h1.below hb h1.lt, h2.below hb⟩, h3.fr (Fr.of_below (bad := fun _ => False) hb), h4⟩
theorem SetAt.alloc (h : SetAt Q base w g S) (o : Obj) : SetAt Q base (w.alloc o) g S := h.below (below_alloc' (Below.refl _ _) o)
theorem SetAt.drew (h : SetAt Q base w g S) : SetAt Q base w.drew g S := h.below (Below.refl _ _).drew
/-- A store into a block that is neither a set nor a row of keys. -/
theorem SetAt.setCell (h : SetAt Q base w g S) {b i : Nat} {T : TypeId} {cs : Array Value} (hb : Blk w b T cs) (hT : ¬ badSK T) (u : Value) : SetAt Q base (w.setCell ⟨b, i, none⟩ u) g S := by
  obtain ⟨v, m, ⟨h1, h2⟩, h3, h4⟩ := h
  have hf : Fr (· = T) w (w.setCell ⟨b, i, none⟩ u) := Fr.setCell (bad := (· = T)) hb rfl u
  exact ⟨v, m, ⟨hf.blk h1 (fun e => hT (.inl e.symm)), h2.fr hf (fun e => hT (.inr e.symm))⟩, h3.fr hf, h4⟩
theorem SetAt.fr {bad : TypeId → Prop} (h : SetAt Q base w g S) (hf : Fr bad w w') (h1 : ¬ bad 153) (h2 : ¬ bad 87) : SetAt Q base w' g S := by
  obtain ⟨v, m, ⟨a1, a2⟩, h3, h4⟩ := h
  exact ⟨v, m, ⟨hf.blk a1 h1, a2.fr hf h2⟩, h3.fr hf, h4⟩
def NewPost (Q : ByteArray → Prop) (w : World) (v : Nat → Value) (e : Ending) (w' : World) : Prop := ∃ g, e = .returned (v g) ∧ SetAt Q w.heap.size w' g [] ∧ Below w.heap.size w w'
set_option maxRecDepth 100000 in
theorem newSet_calls (Q : ByteArray → Prop) (w : World) : Calls Tryd.prog 57 #[] w (NewPost Q w fun g => .pointer (some ⟨g, 0, none⟩)) := by
  have hmm := @run_makeMap Tryd.prog
  have HM := Lib.hid ((MapN.new (Q := Q) w).fr (Fr.alloc (bad := fun _ => False) (w.alloc (.map #[] 0)) (.cells #[.slice none 0 0, .map (some w.heap.size)] 153)))
  have HB := Lib.hid (Blk.new (w.alloc (.map #[] 0)) 153 #[.slice none 0 0, .map (some w.heap.size)])
  go_enter Tryd.func57, Tryd.ntmps57
  go_wp2
  go_ret
  exact ⟨w.heap.size + 1, by simp, ⟨_, _, ⟨by simpa using HB.out, KL.nil _ _ _⟩, HM.out, by omega, Nat.le_refl _⟩, below_alloc' (below_alloc' (Below.refl _ _) _) _⟩
set_option maxRecDepth 100000 in
theorem NewSet_calls (Q : ByteArray → Prop) (w : World) : Calls Tryd.prog 39 #[] w (NewPost Q w fun g => .iface 137 (.pointer (some ⟨g, 0, none⟩))) := by
  have HN := Lib.hid (newSet_calls Q w)
  go_enter Tryd.func39, Tryd.ntmps39
  go_wp2_with fail
  refine HN.out.mono ?_
  rintro e w1 ⟨g, rfl, hs, hb⟩
  have HS := Lib.hid (And.intro hs hb)
  clear hs hb
  go_wp2
  go_ret
  exact ⟨g, rfl, HS.out.1, HS.out.2⟩
def Gone (v : Value) : Prop := ∃ T u, v = .iface T u
set_option maxRecDepth 100000 in
theorem errNew_calls (w : World) (s : ByteArray) : Calls Tryd.prog 69 #[.string s] w fun e w' => (∃ T u, e = .returned (.iface T u)) ∧ Below w.heap.size w w' := by
  go_enter Tryd.func69, Tryd.ntmps69
  go_wp2
  go_ret
  exact ⟨⟨_, _, rfl⟩, below_alloc' (Below.refl _ _) _⟩
theorem infoKey : (Tryd.prog.info? 87).map (fun i => (i.zero, i.size, i.bytes)) = some (some .nilIface, 1, 16) := by kernel_rfl
theorem ix_pos {S : List Nat} {k : Nat} (h : k ∈ S) : 0 ≤ ix S k := by
  unfold ix
  cases hf : S.findIdx? (· == k) with
  | none => exact absurd h (fun hm => by have := (List.findIdx?_eq_none_iff.1 hf) k hm; simp at this)
  | some i => exact Int.natCast_nonneg i
/-- What a method leaves that has done its work, or has not. -/
def Did (Q : ByteArray → Prop) (base g : Nat) (ok : Bool) (S' : List Nat) (w : World) (e : Ending) (w' : World) : Prop :=
  ∃ v, e = .returned v ∧ (v = .nilIface ∧ ok = true ∨ Gone v ∧ ok = false) ∧ SetAt Q base w' g S' ∧ Fw base w w'
set_option maxRecDepth 100000 in
set_option maxHeartbeats 2000000 in
theorem AddKey_calls (h : SetAt Q base w g S) (k : Nat) (hk : KeysIn w (k :: S)) (hn : S.length < 500) (hbase : base ≤ w.heap.size) :
    Calls Tryd.prog 122 #[.pointer (some ⟨g, 0, none⟩), keyV k] w (Did Q base g (decide (k ∉ S)) (if k ∈ S then S else S ++ [k]) w) := by
  obtain ⟨v, m, hK, hM, hbg, hbm⟩ := h
  have HI := Lib.hid (indexNL_calls hK k hk (by omega))
  have hne : Sem.run Tryd.prog (binOp .eql 87 (keyV k) .nilIface) w = .ok (.bool false) w := by kernel_rfl
  by_cases hkS : k ∈ S
  · rw [if_pos hkS, decide_eq_false (by simpa using hkS)]
    have hp : ¬ ix S k < 0 := by have := ix_pos hkS; omega
    have hp2 : (-1 : Int) < ix S k := by have := ix_pos hkS; omega
    have HE := Lib.hid (fun s => errNew_calls w s)
    have HS := Lib.hid (And.intro hK (And.intro hM (And.intro hbg hbm)))
    obtain ⟨q, hq⟩ : ∃ q, q = ix S k := ⟨_, rfl⟩
    rw [← hq] at hp hp2
    rw [← hq] at HI
    clear hq hK hM
    go_enter Tryd.func122, Tryd.ntmps122
    go_wp2_with fail
    refine HI.out.mono ?_
    rintro e w1 ⟨rfl, rfl⟩
    go_wp2_with fail
    refine (HE.out _).mono ?_
    rintro e w2 ⟨⟨T, u, rfl⟩, hb⟩
    have HB := Lib.hid hb
    clear hb HE HI
    go_wp2
    go_ret
    exact ⟨_, rfl, .inr ⟨⟨T, u, rfl⟩, rfl⟩, SetAt.below ⟨v, m, HS.out.1, HS.out.2.1, HS.out.2.2⟩ HB.out, Fw.of_below HB.out hbase⟩
  · rw [if_neg hkS, decide_eq_true hkS]
    obtain ⟨i0, hi, hz0, hz1, hz2⟩ := info_parts infoKey
    have hix := ix_not hkS
    rw [hix] at HI
    obtain ⟨A, c, rfl, hlc, _⟩ := hK.2.len
    have hl : (S.map keyV).length = S.length := by simp
    obtain ⟨c0, c1⟩ := hK.cells
    have hc1 : (w.alloc (.cells #[keyV k] 87)).cell? ⟨w.heap.size, 0, none⟩ = some (keyV k) := by rw [(Blk.new w 87 #[keyV k]).cell]; rfl
    obtain ⟨v', w2, hrun, hKL2, hfr, hbel⟩ := KL.append 84 84 i0 .nilIface 16 Tryd.underlying84 hi hz0 hz1 hz2 rfl (hK.2.alloc (.cells #[keyV k] 87)) (keyV k) rfl ⟨w.heap.size, 0, none⟩ 1 hc1 (by rw [hl]; unfold maxLen; omega) (by rw [hl]; omega) (Nat.le_trans hbase (by simp))
    obtain ⟨A', c', rfl, _, _⟩ := hKL2.len
    have hb2 : Blk w2 g 153 #[.slice A (S.map keyV).length c, .map (some m)] := hfr.blk (hK.1.alloc _) (by decide)
    have c2 : w2.cell? ⟨g, 0, none⟩ = some (.slice A (S.map keyV).length c) := by rw [hb2.cell]; rfl
    have f2 := hb2.frozen 0
    have hset : SetAt Q base (w2.setCell ⟨g, 0, none⟩ (.slice A' (S.map keyV ++ [keyV k]).length c')) g (S ++ [k]) :=
      ⟨_, m, ⟨hb2.set_ 0 _, by rw [List.map_append]; exact hKL2.setCell hb2 (by decide) _⟩, (((hM.fr (Fr.alloc (bad := badSK) w _)).fr hfr).fr (Fr.setCell (bad := badSK) hb2 (.inl rfl) _)), hbg, hbm⟩
    have hfw : Fw base w (w2.setCell ⟨g, 0, none⟩ (.slice A' (S.map keyV ++ [keyV k]).length c')) :=
      Fw.of_fr (((below_alloc' (Below.refl w.heap.size w) (.cells #[keyV k] 87)).mono hbase |>.trans hbel).setCell (by show base ≤ g; exact hbg) _)
        (((Fr.alloc (bad := badSK) w (.cells #[keyV k] 87)).trans (hfr.mono (fun T e => .inr e))).trans (Fr.setCell (bad := badSK) hb2 (.inl rfl) _))
    obtain ⟨q, hq⟩ : ∃ q, q = (S.map keyV).length := ⟨_, rfl⟩
    obtain ⟨q', hq'⟩ : ∃ q', q' = (S.map keyV ++ [keyV k]).length := ⟨_, rfl⟩
    rw [← hq] at c0 c2 hrun
    rw [← hq'] at hrun hset hfw
    have HR := Lib.hid hrun
    have HS := Lib.hid (And.intro hset hfw)
    clear hset hfw hrun hKL2 hfr hbel hb2 hc1 hix hi hz0 hz1 hz2 hl hK hM hlc hq hq'
    go_enter Tryd.func122, Tryd.ntmps122
    go_wp2_with fail
    refine HI.out.mono ?_
    rintro e w1 ⟨rfl, rfl⟩
    clear HI
    go_wp2_with (at_builtin; refine wpList_append_run rfl (.tmp 19) (.tmp 21) 84 rfl _ _ rfl rfl HR.out ?_)
    go_ret
    exact ⟨_, rfl, .inl ⟨rfl, rfl⟩, HS.out.1, HS.out.2⟩
end
end Go.Proofs.YtlbnemnadegapaaDoor.Ky
