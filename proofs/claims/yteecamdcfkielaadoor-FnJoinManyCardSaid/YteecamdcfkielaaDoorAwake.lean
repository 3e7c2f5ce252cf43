/- Walks of wrapAwake and wrapWhole, and of the law FnWrapTorn; the conditions are on sizes alone. -/
import Derived.Test.YteecamdcfkielaaDoorWrapped
import Derived.Test.YteecamdcfkielaaDoorWLaw
import Derived.Lib.SlBytesConst
set_option linter.unusedVariables false
set_option linter.unusedSimpArgs false
namespace Go.Proofs.YteecamdcfkielaaDoor.Wr
open Go.RowKit Go.Proofs.YteecamdcfkielaaDoor.K Go.Proofs.YteecamdcfkielaaDoor.Own
theorem opn {b n : Nat} {w : World} {v : Value} {l : List UInt8} (h : OwnB b w v l) (hl : l.length = n) : ∃ A c, v = .slice A n c ∧ n ≤ c ∧ RB w A n l := by
  subst hl
  obtain ⟨A, c, rfl, hc, ho⟩ := h
  exact ⟨A, c, rfl, hc, Reads.of_own ho⟩
/-- A key that is wrapped. -/
theorem Wrapped_yes (w : World) (s m n : Nat) (A : Option Addr) (c : Nat) (bs : List UInt8) (hs : s < 18446744073709551616) (h1 : 1 ≤ n) (h2 : n ≤ 1000) (hm : m = 8 * n) (hrb : RB w A m bs) :
    Calls Tryd.prog 6 #[.int .u64 s, .slice A m c] w fun e w' => ∃ A' c', e = .returned (.tuple #[.slice A' (m + 8) c', .bool true]) ∧ m + 8 ≤ c' ∧ RB w' A' (m + 8) (wrapB (encB s) n bs) ∧ Below w.heap.size w w' := by
  refine (Wrapped_good w s m n A c bs hs h1 h2 hm hrb).mono ?_
  rintro e w' ⟨v, rfl, ho, hb⟩
  obtain ⟨A', c', rfl, hc, hr⟩ := opn ho (wrap_len s n bs h1 (by rw [← hrb.len, hm]))
  exact ⟨A', c', by rw [hm], by omega, by rw [hm]; exact hr, hb⟩
/-- What was wrapped is opened. -/
theorem Unwrapped_back (w : World) (s m n : Nat) (A : Option Addr) (c : Nat) (bs : List UInt8) (hs : s < 18446744073709551616) (h1 : 1 ≤ n) (h2 : n ≤ 1000) (hl : bs.length = 8 * n) (hm : m = 8 * n + 8) (hrb : RB w A m (wrapB (encB s) n bs)) :
    Calls Tryd.prog 11 #[.int .u64 s, .slice A m c] w fun e w' => ∃ A' c', e = .returned (.tuple #[.slice A' (8 * n) c', .bool true]) ∧ 8 * n ≤ c' ∧ RB w' A' (8 * n) bs ∧ Below w.heap.size w w' := by
  have hu := un_wrap s n bs h1 hl
  refine (Unwrapped_yes w s m n A c _ hs h1 h2 hm hrb hu.1).mono ?_
  rintro e w' ⟨v, rfl, ho, hb⟩
  rw [hu.2] at ho
  obtain ⟨A', c', rfl, hc, hr⟩ := opn ho hl
  exact ⟨A', c', rfl, hc, hr, hb⟩
theorem rb_marked (w : World) (l : List UInt8) (n : Nat) (hn : n = l.length) (o : TypeId) (fr : Nat × Nat) : RB (w.alloc (.cells (bys l).toArray o fr)) (some ⟨w.heap.size, 0, none⟩) n l := by
  subst hn
  refine ⟨by simp [bys], fun _ => ⟨_, rfl, by simp, fun j u hu => ?_⟩⟩
  rw [add_plain, cell_of_row _ _ _ _ _ fr (heap_alloc_new w _), List.getElem?_toArray]
  exact hu
def K16 : List UInt8 := [48, 49, 50, 51, 52, 53, 54, 55, 56, 57, 97, 98, 99, 100, 101, 102]
set_option maxRecDepth 100000 in
set_option maxHeartbeats 2000000 in
theorem wrapAwake_calls (w : World) : Calls Tryd.prog 5 #[] w fun e w' => e = .returned (.bool true) ∧ Below w.heap.size w w' := by
  have hk : RB (w.alloc (.cells (bys K16).toArray 5 (16, 17))) (some ⟨w.heap.size, 0, none⟩) 16 K16 := rb_marked w K16 16 (by simp [K16]) _ _
  have hb0 : Below w.heap.size w (w.alloc (.cells (bys K16).toArray 5 (16, 17))) := below_alloc' (Below.refl _ _) _
  have h1 := Wrapped_yes (w.alloc (.cells (bys K16).toArray 5 (16, 17))) 7 16 2 (some ⟨w.heap.size, 0, none⟩) 16 K16 (by decide) (by decide) (by decide) rfl hk
  rw [show ((7 : Nat) : Int) = 7 from rfl] at h1
  have H1 := Lib.hid h1
  have HK := Lib.hid hk
  have HB0 := Lib.hid hb0
  clear h1 hk hb0
  have hcv := fun (W : World) (C : Array Value) (n c : Nat) => Lib.run_convert_bytes_const (P := Tryd.prog) W 23 5 C n c Tryd.underlying23 Tryd.underlying5
  go_enter Tryd.func5, Tryd.ntmps5
  go_wp2_with (first
    | (go_at_call 6; refine H1.out.mono ?_; rintro e w1 ⟨A1, c1, rfl, hc1, hr1, hB1⟩; have HR1 := Lib.hid hr1; have HB1 := Lib.hid hB1; have h2 := Unwrapped_back w1 7 24 2 A1 c1 K16 (by decide) (by decide) (by decide) (by simp [K16]) rfl hr1; rw [show ((7 : Nat) : Int) = 7 from rfl] at h2; have H2 := Lib.hid h2; clear h2 hr1 hB1)
    | (go_at_call 11; refine H2.out.mono ?_; rintro e w2 ⟨A2, c2, rfl, hc2, hr2, hB2⟩; have HR2 := Lib.hid hr2; have HB2 := Lib.hid hB2; have hB12 := HB1.out.trans (HB2.out.mono HB1.out.size); have hk2 := HK.out.below hB12 (Nat.le_refl _); have HK2 := Lib.hid hk2; clear hr2 hB2 hB12 hk2)
    | (go_at_call 12; refine (PartSame_calls w2 A2 _ K16 K16 _ c2 16 16 HR2.out HK2.out).mono ?_; rintro e w3 ⟨rfl, hw3⟩; have HW3 := Lib.hid hw3; clear hw3))
  go_ret
  exact ⟨rfl, by rw [← HW3.out]; exact (HB0.out.trans (HB1.out.mono HB0.out.size)).trans (HB2.out.mono (Nat.le_trans HB0.out.size HB1.out.size))⟩
end Go.Proofs.YteecamdcfkielaaDoor.Wr
