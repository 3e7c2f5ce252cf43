/- The walk of partAwake, and how a decoded text is opened; no condition. -/
import Derived.Test.YtimicibalhaljaaB64Decd
import Derived.Lib.SlBytesConst
set_option linter.unusedVariables false
set_option linter.unusedSimpArgs false
namespace Go.Proofs.Ytimicibalhaljaa.B64
open Go.RowKit Go.Proofs.Ytimicibalhaljaa.K Go.Proofs.Ytimicibalhaljaa.Own
theorem rb_marked (w : World) (l : List UInt8) (n : Nat) (hn : n = l.length) (o : TypeId) (fr : Nat × Nat) : RB (w.alloc (.cells (bys l).toArray o fr)) (some ⟨w.heap.size, 0, none⟩) n l := by
  subst hn
  refine ⟨by simp [bys], fun _ => ⟨_, rfl, by simp, fun j u hu => ?_⟩⟩
  rw [add_plain, cell_of_row _ _ _ _ _ fr (heap_alloc_new w _), List.getElem?_toArray]
  exact hu
/-- What is read of a text that reads. -/
def DecYes (w : World) (out : List UInt8) (e : Ending) (w' : World) : Prop := ∃ A c, e = .returned (.tuple #[.slice A out.length c, .bool true]) ∧ out.length ≤ c ∧ w'.ownsRow w.heap.size 5 1 (.slice A out.length c) out.length (bys out) ∧ Below w.heap.size w w'
theorem DecPost.yes {w : World} {t out : List UInt8} (h : partDec t = some out) {e : Ending} {w' : World} (hp : DecPost w t e w') : DecYes w out e w' := by
  obtain ⟨hB, ⟨v, o2, h1, h2, A, c, rfl, h4, h5⟩ | ⟨h1, _⟩⟩ := hp
  · rw [h] at h1
    obtain rfl := Option.some.inj h1
    exact ⟨A, c, h2, h4, h5, hB⟩
  · rw [h] at h1; cases h1
def DecNo (w : World) (e : Ending) (w' : World) : Prop := e = .returned (.tuple #[.slice none 0 0, .bool false]) ∧ Below w.heap.size w w'
theorem DecPost.no {w : World} {t : List UInt8} (h : partDec t = none) {e : Ending} {w' : World} (hp : DecPost w t e w') : DecNo w e w' := by
  obtain ⟨hB, ⟨v, o2, h1, _⟩ | ⟨_, h2⟩⟩ := hp
  · rw [h] at h1; cases h1
  · exact ⟨h2, hB⟩
theorem Decoded_yes (w : World) (A : Option Addr) (n c : Nat) (t out : List UInt8) (h : RB w A n t) (hc : n ≤ c) (hn : n ≤ 100000) (hnl : ∀ c ∈ t, c ≠ 10 ∧ c ≠ 13) (hd : partDec t = some out) :
    Calls Try.prog 15 #[.slice A n c] w (DecYes w out) := (Decoded_calls w A n c t h hc hn hnl).mono fun _ _ h => h.yes hd
theorem Decoded_no (w : World) (A : Option Addr) (n c : Nat) (t : List UInt8) (h : RB w A n t) (hc : n ≤ c) (hn : n ≤ 100000) (hnl : ∀ c ∈ t, c ≠ 10 ∧ c ≠ 13) (hd : partDec t = none) :
    Calls Try.prog 15 #[.slice A n c] w (DecNo w) := (Decoded_calls w A n c t h hc hn hnl).mono fun _ _ h => h.no hd
/-- Bytes of the call's own, with their length written out. -/
def OwnN (w : World) (l : List UInt8) (n : Nat) (e : Ending) (w' : World) : Prop := ∃ A c, e = .returned (.slice A n c) ∧ n ≤ c ∧ w'.ownsRow w.heap.size 5 1 (.slice A n c) n (bys l) ∧ Below w.heap.size w w'
theorem OwnN.of {w : World} {l : List UInt8} {n : Nat} (hn : l.length = n) {e : Ending} {w' : World} (h : ∃ v, e = .returned v ∧ OwnB w.heap.size w' v l ∧ Below w.heap.size w w') : OwnN w l n e w' := by
  subst hn
  obtain ⟨v, rfl, ⟨A, c, rfl, hc, ho⟩, hB⟩ := h
  exact ⟨A, c, rfl, hc, ho, hB⟩
theorem Encoded_n (w : World) (A : Option Addr) (n c m : Nat) (bs : List UInt8) (h : RB w A n bs) (hc : n ≤ c) (hn : n ≤ 100000) (hm : (encRaw alURL bs).length = m) :
    Calls Try.prog 18 #[.slice A n c] w (OwnN w (encRaw alURL bs) m) := (Encoded_calls w A n c bs h hc hn).mono fun _ _ h => OwnN.of hm h
theorem partOwn_n (w : World) (A : Option Addr) (n c : Nat) (bs : List UInt8) (h : RB w A n bs) (hn : n ≤ 140737488355328) :
    Calls Try.prog 16 #[.slice A n c] w (OwnN w bs n) := (partOwn_calls w A bs n c h hn).mono fun _ _ h' => OwnN.of h.len.symm h'
set_option maxRecDepth 100000 in
set_option maxHeartbeats 2000000 in
theorem partAwake_calls (w : World) : Calls Try.prog 13 #[] w fun e w' => e = .returned (.bool true) ∧ Below w.heap.size w w' := by
  have hk : RB (w.alloc (.cells (bys [90, 109, 56]).toArray 5 (3, 4))) (some ⟨w.heap.size, 0, none⟩) 3 [90, 109, 56] := rb_marked w _ 3 rfl _ _
  have hb0 : Below w.heap.size w (w.alloc (.cells (bys [90, 109, 56]).toArray 5 (3, 4))) := below_alloc' (Below.refl _ _) _
  have H1 := Lib.hid (Decoded_yes _ _ 3 3 [90, 109, 56] [102, 111] hk (by decide) (by decide) (by decide) (by decide +kernel))
  have HB0 := Lib.hid hb0
  clear hk hb0
  have hcv := fun (W : World) (C : Array Value) (n c : Nat) => Lib.run_convert_bytes_const (P := Try.prog) W 22 5 C n c Try.underlying22 Try.underlying5
  go_enter Try.func13, Try.ntmps13
  go_wp2_with fail
  refine H1.out.mono ?_
  rintro e w1 ⟨A1, c1, rfl, hc1, ho1, hB1⟩
  have hs1 := fun W : World => fun (hr : RB W A1 2 [102, 111]) => conv_string (P := Try.prog) (c := c1) Try.underlying22 Try.underlying5 Try.underlying9 hr
  have hs2 := hs1 w1 (Reads.of_own ho1)
  have hk2 : RB (w1.alloc (.cells (bys [102, 111]).toArray 5 (2, 3))) (some ⟨w1.heap.size, 0, none⟩) 2 [102, 111] := rb_marked w1 _ 2 rfl _ _
  have hb2 : Below w1.heap.size w1 (w1.alloc (.cells (bys [102, 111]).toArray 5 (2, 3))) := below_alloc' (Below.refl _ _) _
  have H2 := Lib.hid (Encoded_n _ _ 2 2 3 [102, 111] hk2 (by decide) (by decide) (by decide +kernel))
  have HB1 := Lib.hid (HB0.out.trans (hB1.mono HB0.out.size))
  have HB2 := Lib.hid hb2
  clear hs1 ho1 hk2 hb2 hB1
  go_wp2_with fail
  refine H2.out.mono ?_
  rintro e w2 ⟨A2, c2, rfl, hc2, ho2, hB2⟩
  have hs3 := conv_string (P := Try.prog) (w := w2) (c := c2) Try.underlying22 Try.underlying5 Try.underlying9 (Reads.of_own ho2)
  rw [show encRaw alURL [102, 111] = [90, 109, 56] by decide +kernel] at hs3
  have HB3 := Lib.hid (below_then HB1.out (below_then HB2.out hB2))
  clear ho2 hB2
  go_wp2
  go_ret
  exact ⟨rfl, HB3.out⟩
end Go.Proofs.Ytimicibalhaljaa.B64
