/- Walks of zzFits5, zzFits4, mapShort over fields, slices.Clone over fields; no conditions but what can be held. -/
import Derived.Test.YtlahgmfpdfblkaaGreatClFill
import Derived.Test.YtlahgmfpdfblkaaGreatClShort2
set_option linter.unusedVariables false
set_option linter.unusedSimpArgs false
namespace Go.Proofs.YtlahgmfpdfblkaaGreat.Cl
open Go.RowKit Go.Proofs.YtlahgmfpdfblkaaGreat.K
set_option maxRecDepth 100000 in
set_option maxHeartbeats 1000000 in
theorem zzFits5_calls (w : World) (nm : ByteArray) (k : Int) (t : ByteArray) (b : Bool) (z : Int) (A : Option Addr) (n c : Nat) (l : List ByteArray) (h : SL w A n l) :
    Calls Tryz.prog 11 #[.agg #[.string nm, .int .i64 k, .string t, .bool b, .int .i32 z, .slice A n c]] w (AnyB w) := by
  have hB1 := below_alloc' (Below.refl w.heap.size w) (.cells #[.string nm, .int .i64 k, .string t, .bool b, .int .i32 z, .slice A n c] 36)
  have HB1 := Lib.hid hB1
  have HF := Lib.hid (zzFits1_calls _ k t b z A n c l (h.below hB1 (Nat.le_refl _)))
  clear hB1 h
  by_cases h1 : 2147483647 < nm.size
  · have h1i : (2147483647 : Int) < (nm.size : Int) := by omega
    go_enter Tryz.func11, Tryz.ntmps11
    go_wp2
    go_ret
    exact ⟨⟨_, rfl⟩, HB1.out⟩
  have h1i : ¬ (2147483647 : Int) < (nm.size : Int) := by omega
  go_enter Tryz.func11, Tryz.ntmps11
  go_wp2_with fail
  with_reducible refine Calls.mono HF.out ?_
  rintro e w1 ⟨r, rfl, _, hB2⟩
  have HB2 := Lib.hid (HB1.out.trans (hB2.mono HB1.out.size))
  clear hB2
  cases r with
  | false =>
    go_wp2
    go_ret
    exact ⟨⟨_, rfl⟩, HB2.out⟩
  | true =>
    go_wp2
    go_ret
    exact ⟨⟨_, rfl⟩, HB2.out⟩
set_option maxRecDepth 100000 in
set_option maxHeartbeats 1000000 in
theorem zzFits4_calls (w : World) (A : Option Addr) (n c : Nat) (fs : List Fd) (h : FL w A n fs) :
    Calls Tryz.prog 4 #[.slice A n c] w (AnyB w) := by
  have HF := Lib.hid h
  have HLN := Lib.hid h.len
  clear h
  by_cases hb : 2147483647 < n
  · have hbi : (2147483647 : Int) < (n : Int) := by omega
    go_enter Tryz.func4, Tryz.ntmps4
    go_wp2
    go_ret
    exact ⟨⟨_, rfl⟩, Below.refl _ _⟩
  have hbi : ¬ (2147483647 : Int) < (n : Int) := by omega
  go_enter Tryz.func4, Tryz.ntmps4
  go_wp2
  go_loopg [10] n (fun q u wr => ∃ j : Nat, q + j = n ∧ u = .int .i64 j ∧ Hid (Below w.heap.size w wr))
  case atStart => exact ⟨0, rfl, rfl, Below.refl _ _⟩
  case round =>
    obtain ⟨j, hqj, rfl, HB⟩ := hrel
    by_cases hj : j < n
    · have hjl : j < fs.length := by have := HLN.out; omega
      obtain ⟨ad, rfl, y0, y1, y2, y3, y4, y5, hsl⟩ := (HF.out.below HB.out (Nat.le_refl _)).at_ hjl
      obtain ⟨f, hf⟩ : ∃ f, f = fs[j] := ⟨_, rfl⟩
      rw [← hf] at y0 y1 y2 y3 y4 y5 hsl
      obtain ⟨nm, k, t, b, z, A1, n1, c1, l1⟩ := f
      simp only at y0 y1 y2 y3 y4 y5 hsl
      clear hf
      have hB1 := below_alloc' (Below.refl wr.heap.size wr) (.cells #[.string nm, .int .i64 k, .string t, .bool b, .int .i32 z, .slice A1 n1 c1] 36)
      have HZ := Lib.hid (zzFits5_calls _ nm k t b z A1 n1 c1 l1 (hsl.below hB1 (Nat.le_refl _)))
      have HB1 := Lib.hid (below_then HB.out hB1)
      clear hB1 hsl
      go_wp2_with fail
      with_reducible refine Calls.mono HZ.out ?_
      rintro e w2 ⟨⟨r, rfl⟩, hB2⟩
      have HB2 := Lib.hid (HB1.out.trans (hB2.mono HB1.out.size))
      clear hB2 HZ
      cases r with
      | false =>
        go_wp2
        go_ret
        exact ⟨⟨_, rfl⟩, HB2.out⟩
      | true =>
        go_wp2
        go_roundg (n - (j + 1))
        case measure => omega
        case rel => exact ⟨j + 1, by omega, by go_num, HB2⟩
    · obtain rfl : j = n := by omega
      go_wp2
      go_ret
      exact ⟨⟨_, rfl⟩, HB.out⟩
def ShortP (n : Nat) (fs : List Fd) : Prop := n ≤ 100 ∧ ∀ f ∈ fs, f.n ≤ 20
set_option maxRecDepth 100000 in
set_option maxHeartbeats 4000000 in
theorem mapShortL_calls (w : World) (A : Option Addr) (n c : Nat) (fs : List Fd) (h : FL w A n fs) :
    Calls Tryz.prog 6 #[.int .i64 2, .slice A n c] w (SomeB w (ShortP n fs)) := by
  have HF := Lib.hid h
  have HLN := Lib.hid h.len
  have HM := Lib.hid (fun (W : World) (x : ByteArray) => MapOther_calls W x)
  clear h
  by_cases hb : 100 < n
  · have hbi : (100 : Int) < (n : Int) := by omega
    go_enter Tryz.func6, Tryz.ntmps6
    go_wp2
    go_ret
    exact ⟨false, rfl, (fun h => by cases h), Below.refl _ _⟩
  have hbi : ¬ (100 : Int) < (n : Int) := by omega
  go_enter Tryz.func6, Tryz.ntmps6
  go_wp2
  go_loopg [14] n (fun q u wr => ∃ j : Nat, q + j = n ∧ u = .int .i64 j ∧ Hid (∀ f ∈ fs.take j, f.n ≤ 20) ∧ Hid (Below w.heap.size w wr))
  case atStart => exact ⟨0, rfl, rfl, (by intro f hf; simp at hf), Below.refl _ _⟩
  case round =>
    obtain ⟨j, hqj, rfl, HJ, HB⟩ := hrel
    by_cases hj : j < n
    · have hjl : j < fs.length := by have := HLN.out; omega
      obtain ⟨ad, rfl, y0, y1, y2, y3, y4, y5, hsl⟩ := (HF.out.below HB.out (Nat.le_refl _)).at_ hjl
      have hst : ∀ f ∈ fs.take (j + 1), f ∈ fs.take j ∨ f = fs[j] := fun f hf => by
        rw [List.take_succ_eq_append_getElem hjl, List.mem_append, List.mem_singleton] at hf; exact hf
      obtain ⟨f, hf⟩ : ∃ f, f = fs[j] := ⟨_, rfl⟩
      rw [← hf] at y0 y1 y2 y3 y4 y5 hsl hst
      obtain ⟨nm, k, t, b, z, A1, n1, c1, l1⟩ := f
      simp only at y0 y1 y2 y3 y4 y5 hsl
      have HST := Lib.hid hst
      clear hf hst
      have HSL := Lib.hid hsl
      have HL1 := Lib.hid hsl.len
      have HB2 := Lib.hid (below_alloc' HB.out (.cells #[.string nm, .int .i64 k, .string t, .bool b, .int .i32 z, .slice A1 n1 c1] 36))
      clear hsl
      by_cases h0 : 100 < nm.size
      · have h0i : (100 : Int) < (nm.size : Int) := by omega
        go_wp2
        go_ret
        exact ⟨false, rfl, (fun h => by cases h), HB2.out⟩
      have h0i : ¬ (100 : Int) < (nm.size : Int) := by omega
      by_cases h1 : 200 < t.size
      · have h1i : (200 : Int) < (t.size : Int) := by omega
        go_wp2
        go_ret
        exact ⟨false, rfl, (fun h => by cases h), HB2.out⟩
      have h1i : ¬ (200 : Int) < (t.size : Int) := by omega
      by_cases h2 : 20 < n1
      · have h2i : (20 : Int) < (n1 : Int) := by omega
        go_wp2
        go_ret
        exact ⟨false, rfl, (fun h => by cases h), HB2.out⟩
      have h2i : ¬ (20 : Int) < (n1 : Int) := by omega
      by_cases h3 : k < 0
      · go_wp2
        go_ret
        exact ⟨false, rfl, (fun h => by cases h), HB2.out⟩
      by_cases h4 : 3 < k
      · go_wp2
        go_ret
        exact ⟨false, rfl, (fun h => by cases h), HB2.out⟩
      go_wp2_with fail
      refine (HM.out _ _).mono ?_
      rintro e w2 ⟨⟨r, rfl⟩, hB3⟩
      have HB3 := Lib.hid (HB2.out.trans (hB3.mono HB2.out.size))
      have HKF : Hid (Blk w2 wr.heap.size 36 #[.string nm, .int .i64 k, .string t, .bool b, .int .i32 z, .slice A1 n1 c1]) := Lib.hid ((Blk.new wr _ _).below hB3 (Blk.new wr _ _).lt)
      have HL3 := Lib.hid ((HSL.out.below (below_alloc' (Below.refl wr.heap.size wr) (.cells #[.string nm, .int .i64 k, .string t, .bool b, .int .i32 z, .slice A1 n1 c1] 36)) (Nat.le_refl _)).below hB3 (Nat.le_refl _))
      clear hB3 y0 y1 y2 y3 y4 y5
      cases r with
      | true =>
        go_wp2
        go_ret
        exact ⟨false, rfl, (fun h => by cases h), HB3.out⟩
      | false =>
        obtain ⟨y0, y1, y2, y3, y4, y5⟩ := six_cells HKF.out
        go_wp2
        go_loopg [58] n1 (fun q u wr2 => ∃ i : Nat, q + i = n1 ∧ u = .int .i64 i ∧ wr2 = w2)
        case atStart => exact ⟨0, rfl, rfl, rfl⟩
        case round =>
          obtain ⟨i, hqi, rfl, hw2⟩ := hrel
          subst hw2
          by_cases hi : i < n1
          · have hil : i < l1.length := by have := HL1.out; omega
            obtain ⟨ae, rfl, hc1⟩ := HL3.out.at_ hil
            obtain ⟨v, hv⟩ : ∃ v, v = l1[i] := ⟨_, rfl⟩
            rw [← hv] at hc1
            clear hv
            by_cases hvs : 200 < v.size
            · have hvi : (200 : Int) < (v.size : Int) := by omega
              go_wp2
              go_ret
              exact ⟨false, rfl, (fun h => by cases h), HB3.out⟩
            · have hvi : ¬ (200 : Int) < (v.size : Int) := by omega
              go_wp2
              go_roundg (n1 - (i + 1))
              case measure => omega
              case rel => exact ⟨i + 1, by omega, by go_num, rfl⟩
          · obtain rfl : i = n1 := by omega
            go_wp2
            go_roundg (n - (j + 1))
            case measure => omega
            case rel =>
              refine ⟨j + 1, by omega, by go_num, ?_, HB3⟩
              intro f hf
              rcases HST.out f hf with h | h
              · exact HJ.out f h
              · rw [h]; show i ≤ 20; omega
    · obtain rfl : j = n := by omega
      have hfin : ∀ f ∈ fs, f.n ≤ 20 := by
        have := HJ.out
        rwa [List.take_of_length_le (by have := HLN.out; omega)] at this
      have HFI := Lib.hid hfin
      clear hfin HJ
      go_wp2
      go_ret
      exact ⟨true, rfl, (fun _ => ⟨by omega, HFI.out⟩), HB.out⟩
end Go.Proofs.YtlahgmfpdfblkaaGreat.Cl
