/- KeyOperationList.Accept at a list of the standard's operations; impl.operations. -/
import Derived.Test.YtlbnemnadegapaaDoorKfAcc
import Derived.Deep.LoopGhost
set_option linter.unusedVariables false
set_option linter.unusedSimpArgs false
namespace Go.Proofs.YtlbnemnadegapaaDoor.Kf
open Go.RowKit Go.Proofs.YtlbnemnadegapaaDoor.K Go.Proofs.YtlbnemnadegapaaDoor.Nm Go.Proofs.YtlbnemnadegapaaDoor.Ky
def ops8 : List ByteArray := [⟨#[115, 105, 103, 110]⟩, ⟨#[118, 101, 114, 105, 102, 121]⟩, ⟨#[101, 110, 99, 114, 121, 112, 116]⟩, ⟨#[100, 101, 99, 114, 121, 112, 116]⟩, ⟨#[119, 114, 97, 112, 75, 101, 121]⟩, ⟨#[117, 110, 119, 114, 97, 112, 75, 101, 121]⟩, ⟨#[100, 101, 114, 105, 118, 101, 75, 101, 121]⟩, ⟨#[100, 101, 114, 105, 118, 101, 66, 105, 116, 115]⟩]
/-- Texts in memory. -/
def SLt (w : World) (A : Option Addr) (n : Nat) (l : List ByteArray) : Prop := Reads w 1 A n (l.map Value.string)
section
variable {w w' : World} {A : Option Addr} {n c : Nat} {l : List ByteArray}
theorem SLt.len (h : SLt w A n l) : n = l.length := by have := h.1; simp at this; omega
theorem SLt.at_ {k : Nat} (h : SLt w A n l) (hk : k < l.length) : ∃ ad, A = some ad ∧ w.cell? (ad.add k) = some (.string l[k]) := by
  have hl := h.len
  obtain ⟨ad, u, e, hu, hc⟩ := Reads.at_ h (by omega : k < n)
  rw [List.getElem?_map, List.getElem?_eq_getElem hk] at hu
  injection hu with hu
  subst hu
  exact ⟨ad, e, hc⟩
theorem SLt.below (h : SLt w A n l) (hb : Below w.heap.size w w') : SLt w' A n l := Reads.below h hb (Nat.le_refl _)
theorem infoOp : (Tryd.prog.info? 145).map (fun i => (i.zero, i.size, i.bytes)) = some (some (.string ByteArray.empty), 1, 16) := by kernel_rfl
/-- A row that is filled up to j. -/
def Fil (cs : Array Value) (n : Nat) (l : List ByteArray) (j : Nat) : Prop := cs.size = n ∧ ∀ i (h : i < l.length), i < j → cs[i]? = some (.string l[i])
theorem Fil.step {cs : Array Value} {j : Nat} (h : Fil cs n l j) (hj : j < l.length) (hn : j < n) : Fil (cs.setIfInBounds j (.string l[j])) n l (j + 1) := by
  refine ⟨by simp [h.1], fun i hi hij => ?_⟩
  by_cases e : i = j
  · subst e
    rw [Array.getElem?_setIfInBounds_self_of_lt (by rw [h.1]; exact hn)]
  · rw [Array.getElem?_setIfInBounds_ne (fun q => e q.symm)]
    exact h.2 i hi (by omega)
theorem Fil.reads {g : Nat} {T : TypeId} {cs : Array Value} (h : Fil cs n l n) (hl : l.length = n) (hb : Blk w g T cs) : SLt w (some ⟨g, 0, none⟩) n l := by
  refine ⟨by simp [hl], fun h0 => ⟨⟨g, 0, none⟩, rfl, hb.lt, fun j u hu => ?_⟩⟩
  rw [List.getElem?_map] at hu
  obtain ⟨s, hs, rfl⟩ := Option.map_eq_some_iff.1 hu
  obtain ⟨hj, rfl⟩ := List.getElem?_eq_some_iff.1 hs
  rw [show (⟨g, 0, none⟩ : Addr).add j = ⟨g, j, none⟩ from by unfold Addr.add; by_cases hk0 : j = 0 <;> simp [hk0], hb.cell]
  exact h.2 j hj (by omega)
def AccPost (b0 n : Nat) (l : List ByteArray) (w : World) (e : Ending) (w' : World) : Prop := ∃ g, e = .returned .nilIface ∧ Blk w' b0 112 #[.slice (some ⟨g, 0, none⟩) n n] ∧ (∃ cs, Blk w' g 145 cs ∧ Fil cs n l n) ∧ w.grownBy w' (some b0)
set_option maxRecDepth 100000 in
set_option maxHeartbeats 4000000 in
theorem Accept_calls (w : World) (b0 : Nat) (hb : Blk w b0 112 #[.slice none 0 0]) (h : SLt w A n l) (hl : ∀ s ∈ l, s ∈ ops8) (hn : n ≤ 1000) :
    Calls Tryd.prog 70 #[.pointer (some ⟨b0, 0, none⟩), .iface 35 (.slice A n c)] w (AccPost b0 n l w) := by
  obtain ⟨i0, hi, hz0, hz1, hz2⟩ := info_parts infoOp
  have HI := Lib.hid (And.intro hi (And.intro hz0 (And.intro hz1 hz2)))
  have t1 : ∀ W, Sem.run Tryd.prog (Instr.typeAssert (.iface 35 (.slice A n c)) 20 9 true) W = .ok (.tuple #[.string ⟨#[]⟩, .bool false]) W := fun W => by kernel_rfl
  have t2 : ∀ W, Sem.run Tryd.prog (Instr.typeAssert (.iface 35 (.slice A n c)) 20 176 true) W = .ok (.tuple #[.slice none 0 0, .bool false]) W := fun W => by kernel_rfl
  have t3 : ∀ W, Sem.run Tryd.prog (Instr.typeAssert (.iface 35 (.slice A n c)) 20 35 true) W = .ok (.tuple #[.slice A n c, .bool true]) W := fun W => by kernel_rfl
  have HLN := Lib.hid h.len
  have HB := Lib.hid (And.intro hb (And.intro h hl))
  have hbl := hb.lt
  clear hi hz0 hz1 hz2 hb h hl
  go_enter Tryd.func70, Tryd.ntmps70
  go_wp2_with (at_make; refine wpList_make_blk rfl _ _ 112 rfl 145 i0 (.string ByteArray.empty) Tryd.underlying112 HI.out.1 HI.out.2.1 HI.out.2.2.1 rfl .i64 .i64 _ _ n rfl rfl rfl rfl (by rw [HI.out.2.2.2]; omega) (by unfold maxLen; omega) ?_; intro w2 hb2 hB2 hs2; have H2 := Lib.hid (And.intro hb2 (And.intro hB2 hs2)); clear hb2 hB2 hs2)
  have HR0 := Lib.hid (show ∃ cs, Blk w2 w.heap.size 145 cs ∧ Fil cs n l 0 ∧ Below w.heap.size w w2 from ⟨_, H2.out.1, ⟨by simp, fun i _ hi => absurd hi (by omega)⟩, H2.out.2.1⟩)
  go_loopg [70] n (fun q u wr => ∃ j : Nat, q + j = n ∧ u = .int .i64 (j : Nat) ∧ Hid (∃ cs, Blk wr w.heap.size 145 cs ∧ Fil cs n l j ∧ Below w.heap.size w wr))
  case atStart => exact ⟨0, rfl, rfl, HR0⟩
  case round =>
    obtain ⟨j, hqj, rfl, HH⟩ := hrel
    clear HR0 H2
    by_cases hj : j < n
    · have hjl : (j : Int) < (n : Int) := by omega
      have hjs : j < l.length := by have := HLN.out; omega
      obtain ⟨cs, hcb, hfil, hbel⟩ := HH.out
      obtain ⟨ad, hA, c0⟩ := (HB.out.2.1.below hbel).at_ hjs
      subst hA
      have hm := HB.out.2.2 l[j] (List.getElem_mem _)
      obtain ⟨e, he⟩ : ∃ e, e = l[j] := ⟨_, rfl⟩
      rw [← he] at hm c0
      obtain ⟨u, hu⟩ : ∃ u, wr.cell? ⟨w.heap.size, j, none⟩ = some u := ⟨cs[j]'(by rw [hfil.1]; exact hj), by rw [hcb.cell]; exact Array.getElem?_eq_getElem _⟩
      have huf := hcb.frozen j
      have HF := Lib.hid (show ∃ cs, Blk (wr.setCell ⟨w.heap.size, j, none⟩ (.string e)) w.heap.size 145 cs ∧ Fil cs n l (j + 1) ∧ Below w.heap.size w (wr.setCell ⟨w.heap.size, j, none⟩ (.string e)) from ⟨_, hcb.set_ j _, by rw [he]; exact hfil.step hjs hj, hbel.setCell (Nat.le_refl _) _⟩)
      clear hcb hfil hbel he HH
      unfold ops8 at hm
      simp only [List.mem_cons, List.not_mem_nil, or_false] at hm
      rcases hm with hm | hm | hm | hm | hm | hm | hm | hm
      all_goals
        subst hm
        go_wp2_with fail
        go_roundg (n - (j + 1))
        case measure => omega
        case rel => exact ⟨j + 1, by omega, by go_num, HF⟩
    · have hjl : ¬ (j : Int) < (n : Int) := by omega
      have hjn : j = n := by omega
      obtain ⟨cs, hcb, hfil, hbel⟩ := HH.out
      have hb0 := HB.out.1.below hbel hbl
      have y0 : wr.cell? ⟨b0, 0, none⟩ = some (.slice none 0 0) := by rw [hb0.cell]; rfl
      have y0f := hb0.frozen 0
      have HF := Lib.hid (show AccPost b0 n l w (.returned .nilIface) (wr.setCell ⟨b0, 0, none⟩ (.slice (some ⟨w.heap.size, 0, none⟩) n n)) from ⟨w.heap.size, rfl, hb0.set_ 0 _, ⟨cs, hcb.far (p := ⟨b0, 0, none⟩) (by show w.heap.size ≠ b0; omega) _, (show Fil cs n l n from hjn ▸ hfil)⟩, grown_trans (grown_of_below hbel (Nat.le_refl _) _) (setCell_grown wr ⟨b0, 0, none⟩ _)⟩)
      clear hcb hfil hbel hb0
      go_wp2_with fail
      refine bodyPost_ret (v := .nilIface) (by kernel_rfl) rfl ?_
      exact HF.out
end
end Go.Proofs.YtlbnemnadegapaaDoor.Kf
