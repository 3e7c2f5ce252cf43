/- Walks of Decode, DecodeString, impl.Decoded, impl.DecodedText; the conditions are on sizes, and no ends of lines. -/
import Derived.Test.YtimicibalhaljaaB64Read
set_option linter.unusedVariables false
set_option linter.unusedSimpArgs false
namespace Go.Proofs.Ytimicibalhaljaa.B64
open Go.RowKit Go.Proofs.Ytimicibalhaljaa.K Go.Proofs.Ytimicibalhaljaa.Own
theorem getDecoder_calls (w : World) : Calls Try.prog 44 #[] w fun e w' => e = .returned (.iface 78 (.agg #[])) ∧ w = w' := by
  go_enter Try.func44, Try.ntmps44
  go_wp2
  go_ret
  exact ⟨rfl, rfl⟩
theorem DDPost.from {w w0 : World} {t : List UInt8} {e : Ending} {w' : World} (hB : Below w.heap.size w w0) (h : DDPost w0 t e w') : DDPost w t e w' := by
  obtain ⟨h1, h2⟩ := h
  refine ⟨below_then hB h1, ?_⟩
  rcases h2 with ⟨v, out, h3, h4, A, c, h5, h6, h7⟩ | h2
  · exact .inl ⟨v, out, h3, h4, A, c, h5, h6, own_base h7 hB.size⟩
  · exact .inr h2
set_option maxRecDepth 100000 in
theorem Decode2_calls (w : World) (A : Option Addr) (n c : Nat) (t : List UInt8) (h : RB w A n t) (hc : n ≤ c) (hn : n ≤ 100000) (hnl : ∀ c ∈ t, c ≠ 10 ∧ c ≠ 13) :
    Calls Try.prog 31 #[.slice A n c] w (DDPost w t) := by
  have hm1 : ∀ W : World, (method 222 78 (.agg #[]) "Decode").run Try.prog W = .ok (66, .agg #[]) W := (fun W => by kernel_rfl)
  have HD := Lib.hid (dd_any w A n c t h hc hn hnl)
  clear h hnl
  go_enter Try.func31, Try.ntmps31
  go_wp2_with (go_at_call 44; refine (getDecoder_calls w).mono ?_; rintro e w1 ⟨rfl, rfl⟩)
  refine HD.out.mono ?_
  rintro e w2 ⟨hB, ⟨v, out, hd, rfl, ho⟩ | ⟨hd, v, T, u, rfl⟩⟩
  · have HB := Lib.hid hB
    have HO := Lib.hid (And.intro hd ho)
    clear hB hd ho
    go_wp2
    go_ret2
    exact ⟨HB.out, .inl ⟨_, out, HO.out.1, rfl, HO.out.2⟩⟩
  · have HB := Lib.hid hB
    have HO := Lib.hid hd
    clear hB hd
    go_wp2
    go_ret2
    exact ⟨HB.out, .inr ⟨HO.out, _, _, _, rfl⟩⟩
/-- What impl.Decoded gives. -/
def DecPost (w : World) (t : List UInt8) (e : Ending) (w' : World) : Prop :=
  Below w.heap.size w w' ∧ ((∃ (v : Value) (out : List UInt8), partDec t = some out ∧ e = .returned (.tuple #[v, .bool true]) ∧ OwnB w.heap.size w' v out) ∨ (partDec t = none ∧ e = .returned (.tuple #[.slice none 0 0, .bool false])))
theorem Decoded_calls (w : World) (A : Option Addr) (n c : Nat) (t : List UInt8) (h : RB w A n t) (hc : n ≤ c) (hn : n ≤ 100000) (hnl : ∀ c ∈ t, c ≠ 10 ∧ c ≠ 13) :
    Calls Try.prog 15 #[.slice A n c] w (DecPost w t) := by
  have HC := Lib.hid (Clone_calls w A t n c h (by omega))
  have HLEN := Lib.hid h.len
  have HNL := Lib.hid hnl
  clear h hnl
  go_enter Try.func15, Try.ntmps15
  go_wp2_with fail
  refine HC.out.mono ?_
  rintro e w1 ⟨v, rfl, ⟨A1, c1, rfl, hc1, ho1⟩, hB1⟩
  have HE := Lib.hid (Decode2_calls w1 A1 t.length c1 t (Reads.of_own ho1) hc1 (by rw [← HLEN.out]; exact hn) HNL.out)
  have HB1 := Lib.hid hB1
  clear ho1 hB1
  go_wp2_with fail
  refine HE.out.mono ?_
  rintro e w2 hdd
  rcases DDPost.from HB1.out hdd with ⟨hB, ⟨v, out, hd, rfl, ho⟩ | ⟨hd, v, T, u, rfl⟩⟩
  · have HB := Lib.hid hB
    have HO := Lib.hid (And.intro hd ho)
    clear hB hd ho hdd
    go_wp2
    go_ret2
    exact ⟨HB.out, .inl ⟨_, out, HO.out.1, rfl, HO.out.2⟩⟩
  · have HB := Lib.hid hB
    have HO := Lib.hid hd
    clear hB hd hdd
    go_wp2
    go_ret2
    exact ⟨HB.out, .inr ⟨HO.out, rfl⟩⟩
theorem bytesRow_rb (w : World) (l : List UInt8) (G : Nat) (o : TypeId) (fr : Nat × Nat) : RB (w.alloc (.cells (bytesRow ⟨l.toArray⟩ G) o fr)) (some ⟨w.heap.size, 0, none⟩) l.length l := by
  refine ⟨by simp [bys], fun _ => ⟨_, rfl, by simp, fun j u hu => ?_⟩⟩
  have hj : j < l.length := by have := (List.getElem?_eq_some_iff.1 hu).1; simpa [bys] using this
  rw [add_plain, cell_of_row _ _ _ _ _ fr (heap_alloc_new w _), bytesRow_at _ _ _ (by simpa using hj), ← hu, bys_get _ _ hj]
  rfl
theorem DecodeString_calls (w : World) (t : List UInt8) (hn : t.length ≤ 100000) (hnl : ∀ c ∈ t, c ≠ 10 ∧ c ≠ 13) :
    Calls Try.prog 36 #[.string ⟨t.toArray⟩] w (DDPost w t) := by
  have hm1 : ∀ W : World, (method 222 78 (.agg #[]) "Decode").run Try.prog W = .ok (66, .agg #[]) W := (fun W => by kernel_rfl)
  have hcv := run_bytes_of_string (P := Try.prog) w 9 22 5 ⟨t.toArray⟩ Try.underlying9 Try.underlying22 Try.underlying5
  have hsz : (⟨t.toArray⟩ : ByteArray).size = t.length := by simp [ByteArray.size]
  rw [hsz] at hcv
  have hG : t.length ≤ grownCap w t.length 0 5 := grownCap_ge _ _ _ _
  obtain ⟨G, hGd⟩ : ∃ G, G = grownCap w t.length 0 5 := ⟨_, rfl⟩
  rw [← hGd] at hcv hG
  have hrb := bytesRow_rb w.drew t G 5 ((bytesRow ⟨t.toArray⟩ G).size, (bytesRow ⟨t.toArray⟩ G).size + 1)
  have hB0 : Below w.heap.size w (w.drew.alloc (.cells (bytesRow ⟨t.toArray⟩ G) 5 ((bytesRow ⟨t.toArray⟩ G).size, (bytesRow ⟨t.toArray⟩ G).size + 1))) := (Below.refl w.heap.size w).drew.alloc (Nat.le_refl _) _
  obtain ⟨W1, hW1⟩ : ∃ W1, W1 = w.drew.alloc (.cells (bytesRow ⟨t.toArray⟩ G) 5 ((bytesRow ⟨t.toArray⟩ G).size, (bytesRow ⟨t.toArray⟩ G).size + 1)) := ⟨_, rfl⟩
  rw [← hW1] at hrb hB0 hcv
  have hrb2 : RB W1 (some ⟨w.heap.size, 0, none⟩) t.length t := hrb
  have HD := Lib.hid (dd_any W1 _ t.length G t hrb2 hG hn hnl)
  have HB0 := Lib.hid hB0
  clear hrb hrb2 hB0 hnl hGd hsz hW1
  go_enter Try.func36, Try.ntmps36
  go_wp2_with (go_at_call 44; refine (getDecoder_calls w).mono ?_; rintro e w1 ⟨rfl, rfl⟩)
  refine HD.out.mono ?_
  rintro e w2 hdd
  rcases DDPost.from HB0.out hdd with ⟨hB, ⟨v, out, hd, rfl, ho⟩ | ⟨hd, v, T, u, rfl⟩⟩
  · have HB := Lib.hid hB
    have HO := Lib.hid (And.intro hd ho)
    clear hB hd ho hdd
    go_wp2
    go_ret2
    exact ⟨HB.out, .inl ⟨_, out, HO.out.1, rfl, HO.out.2⟩⟩
  · have HB := Lib.hid hB
    have HO := Lib.hid hd
    clear hB hd hdd
    go_wp2
    go_ret2
    exact ⟨HB.out, .inr ⟨HO.out, _, _, _, rfl⟩⟩
theorem DecodedText_calls (w : World) (t : List UInt8) (hn : t.length ≤ 100000) (hnl : ∀ c ∈ t, c ≠ 10 ∧ c ≠ 13) :
    Calls Try.prog 21 #[.string ⟨t.toArray⟩] w (DecPost w t) := by
  have HE := Lib.hid (DecodeString_calls w t hn hnl)
  clear hnl
  go_enter Try.func21, Try.ntmps21
  go_wp2_with fail
  refine HE.out.mono ?_
  rintro e w2 ⟨hB, ⟨v, out, hd, rfl, ho⟩ | ⟨hd, v, T, u, rfl⟩⟩
  · have HB := Lib.hid hB
    have HO := Lib.hid (And.intro hd ho)
    clear hB hd ho
    go_wp2
    go_ret2
    exact ⟨HB.out, .inl ⟨_, out, HO.out.1, rfl, HO.out.2⟩⟩
  · have HB := Lib.hid hB
    have HO := Lib.hid hd
    clear hB hd
    go_wp2
    go_ret2
    exact ⟨HB.out, .inr ⟨HO.out, rfl⟩⟩
end Go.Proofs.Ytimicibalhaljaa.B64
