/- Walks of Decode, DecodeString, impl.Decoded, impl.DecodedText; the conditions are on sizes, and no ends of lines. -/
import Derived.Test.YteecamdcfkielaaDoorB64Read
set_option linter.unusedVariables false
set_option linter.unusedSimpArgs false
namespace Go.Proofs.YteecamdcfkielaaDoor.B64
open Go.RowKit Go.Proofs.YteecamdcfkielaaDoor.K Go.Proofs.YteecamdcfkielaaDoor.Own
theorem getDecoder_calls (w : World) : Calls Tryd.prog 26 #[] w fun e w' => e = .returned (.iface 71 (.agg #[])) ∧ w = w' := by
  go_enter Tryd.func26, Tryd.ntmps26
  go_wp2
  go_ret
  exact ⟨rfl, rfl⟩
theorem DDPost.from {w w0 : World} {t : List UInt8} {e : Ending} {w' : World} (hB : Below w.heap.size w w0) (h : DDPost w0 t e w') : DDPost w t e w' := by
  obtain ⟨h1, h2⟩ := h
  refine ⟨below_then hB h1, ?_⟩
  rcases h2 with ⟨v, out, h3, h4, A, c, h5, h6, h7⟩ | h2
  · exact .inl ⟨v, out, h3, h4, A, c, h5, h6, own_base h7 hB.size⟩
  · exact .inr h2
set_option maxRecDepth 100000 in
theorem Decode2_calls (w : World) (A : Option Addr) (n c : Nat) (t : List UInt8) (h : RB w A n t) (hc : n ≤ c) (hn : n ≤ 100000) (hnl : ∀ c ∈ t, c ≠ 10 ∧ c ≠ 13) :
    Calls Tryd.prog 18 #[.slice A n c] w (DDPost w t) := by
  have hm1 : ∀ W : World, (method 220 71 (.agg #[]) "Decode").run Tryd.prog W = .ok (71, .agg #[]) W := (fun W => by kernel_rfl)
  have HD := Lib.hid (dd_any w A n c t h hc hn hnl)
  clear h hnl
  go_enter Tryd.func18, Tryd.ntmps18
  go_wp2_with (go_at_call 26; refine (getDecoder_calls w).mono ?_; rintro e w1 ⟨rfl, rfl⟩)
  refine HD.out.mono ?_
  rintro e w2 ⟨hB, ⟨v, out, hd, rfl, ho⟩ | ⟨hd, v, T, u, rfl⟩⟩
  · have HB := Lib.hid hB
    have HO := Lib.hid (And.intro hd ho)
    clear hB hd ho
    go_wp2
    go_ret2
    exact ⟨HB.out, .inl ⟨_, out, HO.out.1, rfl, HO.out.2⟩⟩
  · have HB := Lib.hid hB
    have HO := Lib.hid hd
    clear hB hd
    go_wp2
    go_ret2
    exact ⟨HB.out, .inr ⟨HO.out, _, _, _, rfl⟩⟩
/-- What impl.Decoded gives. -/
def DecPost (w : World) (t : List UInt8) (e : Ending) (w' : World) : Prop :=
  Below w.heap.size w w' ∧ ((∃ (v : Value) (out : List UInt8), partDec t = some out ∧ e = .returned (.tuple #[v, .bool true]) ∧ OwnB w.heap.size w' v out) ∨ (partDec t = none ∧ e = .returned (.tuple #[.slice none 0 0, .bool false])))
theorem Decoded_calls (w : World) (A : Option Addr) (n c : Nat) (t : List UInt8) (h : RB w A n t) (hc : n ≤ c) (hn : n ≤ 100000) (hnl : ∀ c ∈ t, c ≠ 10 ∧ c ≠ 13) :
    Calls Tryd.prog 10 #[.slice A n c] w (DecPost w t) := by
  have HC := Lib.hid (Clone_calls w A t n c h (by omega))
  have HLEN := Lib.hid h.len
  have HNL := Lib.hid hnl
  clear h hnl
  go_enter Tryd.func10, Tryd.ntmps10
  go_wp2_with fail
  refine HC.out.mono ?_
  rintro e w1 ⟨v, rfl, ⟨A1, c1, rfl, hc1, ho1⟩, hB1⟩
  have HE := Lib.hid (Decode2_calls w1 A1 t.length c1 t (Reads.of_own ho1) hc1 (by rw [← HLEN.out]; exact hn) HNL.out)
  have HB1 := Lib.hid hB1
  clear ho1 hB1
  go_wp2_with fail
  refine HE.out.mono ?_
  rintro e w2 hdd
  rcases DDPost.from HB1.out hdd with ⟨hB, ⟨v, out, hd, rfl, ho⟩ | ⟨hd, v, T, u, rfl⟩⟩
  · have HB := Lib.hid hB
    have HO := Lib.hid (And.intro hd ho)
    clear hB hd ho hdd
    go_wp2
    go_ret2
    exact ⟨HB.out, .inl ⟨_, out, HO.out.1, rfl, HO.out.2⟩⟩
  · have HB := Lib.hid hB
    have HO := Lib.hid hd
    clear hB hd hdd
    go_wp2
    go_ret2
    exact ⟨HB.out, .inr ⟨HO.out, rfl⟩⟩
theorem bytesRow_rb (w : World) (l : List UInt8) (G : Nat) (o : TypeId) (fr : Nat × Nat) : RB (w.alloc (.cells (bytesRow ⟨l.toArray⟩ G) o fr)) (some ⟨w.heap.size, 0, none⟩) l.length l := by
  refine ⟨by simp [bys], fun _ => ⟨_, rfl, by simp, fun j u hu => ?_⟩⟩
  have hj : j < l.length := by have := (List.getElem?_eq_some_iff.1 hu).1; simpa [bys] using this
  rw [add_plain, cell_of_row _ _ _ _ _ fr (heap_alloc_new w _), bytesRow_at _ _ _ (by simpa using hj), ← hu, bys_get _ _ hj]
  rfl
end Go.Proofs.YteecamdcfkielaaDoor.B64
