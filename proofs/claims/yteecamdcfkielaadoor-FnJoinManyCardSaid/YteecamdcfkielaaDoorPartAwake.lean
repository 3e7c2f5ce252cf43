/- The walk of partAwake, and how a decoded text is opened; no condition. -/
import Derived.Test.YteecamdcfkielaaDoorB64Decd
import Derived.Lib.SlBytesConst
set_option linter.unusedVariables false
set_option linter.unusedSimpArgs false
namespace Go.Proofs.YteecamdcfkielaaDoor.B64
open Go.RowKit Go.Proofs.YteecamdcfkielaaDoor.K Go.Proofs.YteecamdcfkielaaDoor.Own
theorem rb_marked (w : World) (l : List UInt8) (n : Nat) (hn : n = l.length) (o : TypeId) (fr : Nat × Nat) : RB (w.alloc (.cells (bys l).toArray o fr)) (some ⟨w.heap.size, 0, none⟩) n l := by
  subst hn
  refine ⟨by simp [bys], fun _ => ⟨_, rfl, by simp, fun j u hu => ?_⟩⟩
  rw [add_plain, cell_of_row _ _ _ _ _ fr (heap_alloc_new w _), List.getElem?_toArray]
  exact hu
/-- What is read of a text that reads. -/
def DecYes (w : World) (out : List UInt8) (e : Ending) (w' : World) : Prop := ∃ A c, e = .returned (.tuple #[.slice A out.length c, .bool true]) ∧ out.length ≤ c ∧ w'.ownsRow w.heap.size 5 1 (.slice A out.length c) out.length (bys out) ∧ Below w.heap.size w w'
theorem DecPost.yes {w : World} {t out : List UInt8} (h : partDec t = some out) {e : Ending} {w' : World} (hp : DecPost w t e w') : DecYes w out e w' := by
  obtain ⟨hB, ⟨v, o2, h1, h2, A, c, rfl, h4, h5⟩ | ⟨h1, _⟩⟩ := hp
  · rw [h] at h1
    obtain rfl := Option.some.inj h1
    exact ⟨A, c, h2, h4, h5, hB⟩
  · rw [h] at h1; cases h1
def DecNo (w : World) (e : Ending) (w' : World) : Prop := e = .returned (.tuple #[.slice none 0 0, .bool false]) ∧ Below w.heap.size w w'
theorem DecPost.no {w : World} {t : List UInt8} (h : partDec t = none) {e : Ending} {w' : World} (hp : DecPost w t e w') : DecNo w e w' := by
  obtain ⟨hB, ⟨v, o2, h1, _⟩ | ⟨_, h2⟩⟩ := hp
  · rw [h] at h1; cases h1
  · exact ⟨h2, hB⟩
theorem Decoded_yes (w : World) (A : Option Addr) (n c : Nat) (t out : List UInt8) (h : RB w A n t) (hc : n ≤ c) (hn : n ≤ 100000) (hnl : ∀ c ∈ t, c ≠ 10 ∧ c ≠ 13) (hd : partDec t = some out) :
    Calls Tryd.prog 10 #[.slice A n c] w (DecYes w out) := (Decoded_calls w A n c t h hc hn hnl).mono fun _ _ h => h.yes hd
theorem Decoded_no (w : World) (A : Option Addr) (n c : Nat) (t : List UInt8) (h : RB w A n t) (hc : n ≤ c) (hn : n ≤ 100000) (hnl : ∀ c ∈ t, c ≠ 10 ∧ c ≠ 13) (hd : partDec t = none) :
    Calls Tryd.prog 10 #[.slice A n c] w (DecNo w) := (Decoded_calls w A n c t h hc hn hnl).mono fun _ _ h => h.no hd
/-- Bytes of the call's own, with their length written out. -/
def OwnN (w : World) (l : List UInt8) (n : Nat) (e : Ending) (w' : World) : Prop := ∃ A c, e = .returned (.slice A n c) ∧ n ≤ c ∧ w'.ownsRow w.heap.size 5 1 (.slice A n c) n (bys l) ∧ Below w.heap.size w w'
theorem OwnN.of {w : World} {l : List UInt8} {n : Nat} (hn : l.length = n) {e : Ending} {w' : World} (h : ∃ v, e = .returned v ∧ OwnB w.heap.size w' v l ∧ Below w.heap.size w w') : OwnN w l n e w' := by
  subst hn
  obtain ⟨v, rfl, ⟨A, c, rfl, hc, ho⟩, hB⟩ := h
  exact ⟨A, c, rfl, hc, ho, hB⟩
theorem partOwn_n (w : World) (A : Option Addr) (n c : Nat) (bs : List UInt8) (h : RB w A n bs) (hn : n ≤ 140737488355328) :
    Calls Tryd.prog 7 #[.slice A n c] w (OwnN w bs n) := (partOwn_calls w A bs n c h hn).mono fun _ _ h' => OwnN.of h.len.symm h'
end Go.Proofs.YteecamdcfkielaaDoor.B64
