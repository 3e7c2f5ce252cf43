/- Walks of MapOther, mapShort, claimShort, zzFits1, claimList: what the laws need of them; no conditions but what can be held. -/
import Derived.Test.YtlahgmfpdfblkaaGreatClShort
set_option linter.unusedVariables false
set_option linter.unusedSimpArgs false
namespace Go.Proofs.YtlahgmfpdfblkaaGreat.Cl
open Go.RowKit Go.Proofs.YtlahgmfpdfblkaaGreat.K
theorem six_cells {w : World} {g : Nat} {T : TypeId} {a b c d e f : Value} (h : Blk w g T #[a, b, c, d, e, f]) : w.cell? ⟨g, 0, none⟩ = some a ∧ w.cell? ⟨g, 1, none⟩ = some b ∧ w.cell? ⟨g, 2, none⟩ = some c ∧ w.cell? ⟨g, 3, none⟩ = some d ∧ w.cell? ⟨g, 4, none⟩ = some e ∧ w.cell? ⟨g, 5, none⟩ = some f :=
  ⟨by rw [h.cell]; rfl, by rw [h.cell]; rfl, by rw [h.cell]; rfl, by rw [h.cell]; rfl, by rw [h.cell]; rfl, by rw [h.cell]; rfl⟩
def AnyB (w : World) (e : Ending) (w' : World) : Prop := (∃ r : Bool, e = .returned (.bool r)) ∧ Below w.heap.size w w'
set_option maxRecDepth 100000 in
set_option maxHeartbeats 1000000 in
theorem MapOther_calls (w : World) (x : ByteArray) : Calls Tryz.prog 13 #[.int .i64 2, .string x] w (AnyB w) := by
  have HC := Lib.hid (fun (W : World) (A : Option Addr) (l : List ByteArray) (h : SL W A 4 l) => SContains_calls W A 4 4 l x h (by decide))
  have hL : ∀ (W : World) (a b c d : ByteArray), SL (W.alloc (.cells #[.string a, .string b, .string c, .string d] 9)) (some ⟨W.heap.size, 0, none⟩) 4 [a, b, c, d] := fun W a b c d => reads_lit W 1 4 [.string a, .string b, .string c, .string d] #[.string a, .string b, .string c, .string d] rfl rfl 9
  have HL := Lib.hid hL
  clear hL
  have HB := Lib.hid (fun (o : Obj) => below_alloc' (Below.refl w.heap.size w) o)
  go_enter Tryz.func13, Tryz.ntmps13
  go_wp2_with fail
  refine (HC.out _ _ _ (HL.out w _ _ _ _)).mono ?_
  rintro e w1 ⟨⟨r, rfl⟩, hw⟩
  have HB1 := Lib.hid (show Below w.heap.size w w1 by rw [← hw]; exact HB.out _)
  clear hw
  cases r with
  | false =>
    go_wp2
    go_ret
    exact ⟨⟨_, rfl⟩, HB1.out⟩
  | true =>
    go_wp2
    go_ret
    exact ⟨⟨_, rfl⟩, HB1.out⟩
set_option maxRecDepth 100000 in
set_option maxHeartbeats 4000000 in
theorem mapShort_calls (w : World) (g : Nat) (x : ByteArray) (k : Int) (t : ByteArray) (b : Bool) (z : Int) (A : Option Addr) (n c : Nat) (l : List ByteArray) (hx : ¬ 100 < x.size)
    (hb : Blk w g 36 #[.string x, .int .i64 k, .string t, .bool b, .int .i32 z, .slice A n c]) (h : SL w A n l) (hn : n ≤ 2147483647) :
    Calls Tryz.prog 6 #[.int .i64 2, .slice (some ⟨g, 0, none⟩) 1 1] w (SomeB w (n ≤ 20)) := by
  have HK := Lib.hid hb
  have HL := Lib.hid h
  have HLN := Lib.hid h.len
  have HM := Lib.hid (fun (W : World) => MapOther_calls W x)
  have hxi : ¬ (100 : Int) < (x.size : Int) := by omega
  clear hb h
  go_enter Tryz.func6, Tryz.ntmps6
  go_wp2
  go_loopg [14] 1 (fun q u wr => ∃ j : Nat, q + j = 1 ∧ u = .int .i64 j ∧ Hid (j = 1 → n ≤ 20) ∧ Hid (Below w.heap.size w wr))
  case atStart => exact ⟨0, rfl, rfl, (fun h => by cases h), Below.refl _ _⟩
  case round =>
    obtain ⟨j, hqj, rfl, hj20, HB⟩ := hrel
    rcases (by omega : j = 0 ∨ j = 1) with rfl | rfl
    · obtain ⟨y0, y1, y2, y3, y4, y5⟩ := six_cells (HK.out.below HB.out HK.out.lt)
      have HB2 := Lib.hid (below_alloc' HB.out (.cells #[.string x, .int .i64 k, .string t, .bool b, .int .i32 z, .slice A n c] 36))
      by_cases h1 : 200 < t.size
      · have h1i : (200 : Int) < (t.size : Int) := by omega
        go_wp2
        go_ret
        exact ⟨false, rfl, (fun h => by cases h), HB2.out⟩
      have h1i : ¬ (200 : Int) < (t.size : Int) := by omega
      by_cases h2 : 20 < n
      · have h2i : (20 : Int) < (n : Int) := by omega
        go_wp2
        go_ret
        exact ⟨false, rfl, (fun h => by cases h), HB2.out⟩
      have h2i : ¬ (20 : Int) < (n : Int) := by omega
      by_cases h3 : k < 0
      · go_wp2
        go_ret
        exact ⟨false, rfl, (fun h => by cases h), HB2.out⟩
      by_cases h4 : 3 < k
      · go_wp2
        go_ret
        exact ⟨false, rfl, (fun h => by cases h), HB2.out⟩
      go_wp2_with fail
      refine (HM.out _).mono ?_
      rintro e w2 ⟨⟨r, rfl⟩, hB3⟩
      have HB3 := Lib.hid (HB2.out.trans (hB3.mono HB2.out.size))
      have HKF : Hid (Blk w2 wr.heap.size 36 #[.string x, .int .i64 k, .string t, .bool b, .int .i32 z, .slice A n c]) := Lib.hid ((Blk.new wr _ _).below hB3 (Blk.new wr _ _).lt)
      have HL3 := Lib.hid (HL.out.below HB3.out (Nat.le_refl _))
      clear hB3 y0 y1 y2 y3 y4 y5
      cases r with
      | true =>
        go_wp2
        go_ret
        exact ⟨false, rfl, (fun h => by cases h), HB3.out⟩
      | false =>
        obtain ⟨y0, y1, y2, y3, y4, y5⟩ := six_cells HKF.out
        go_wp2
        go_loopg [58] n (fun q u wr2 => ∃ i : Nat, q + i = n ∧ u = .int .i64 i ∧ wr2 = w2)
        case atStart => exact ⟨0, rfl, rfl, rfl⟩
        case round =>
          obtain ⟨i, hqi, rfl, hw2⟩ := hrel
          subst hw2
          by_cases hi : i < n
          · have hil : i < l.length := by have := HLN.out; omega
            obtain ⟨ad, rfl, hc1⟩ := HL3.out.at_ hil
            obtain ⟨v, hv⟩ : ∃ v, v = l[i] := ⟨_, rfl⟩
            rw [← hv] at hc1
            clear hv
            by_cases hvs : 200 < v.size
            · have hvi : (200 : Int) < (v.size : Int) := by omega
              go_wp2
              go_ret
              exact ⟨false, rfl, (fun h => by cases h), HB3.out⟩
            · have hvi : ¬ (200 : Int) < (v.size : Int) := by omega
              go_wp2
              go_roundg (n - (i + 1))
              case measure => omega
              case rel => exact ⟨i + 1, by omega, by go_num, rfl⟩
          · obtain rfl : i = n := by omega
            go_wp2
            go_roundg 0
            case measure => omega
            case rel => exact ⟨1, by omega, by go_num, (fun _ => by omega), HB3⟩
    · go_wp2
      go_ret
      exact ⟨true, rfl, (fun _ => by first | exact hj20.out rfl | exact hj20.out trivial), HB.out⟩
set_option maxRecDepth 100000 in
set_option maxHeartbeats 1000000 in
theorem claimShort_calls (w : World) (k : Int) (t : ByteArray) (b : Bool) (z : Int) (A : Option Addr) (n c : Nat) (l : List ByteArray) (h : SL w A n l) (hn : n ≤ 2147483647) :
    Calls Tryz.prog 7 #[plainV k t b z A n c] w (SomeB w (n ≤ 20)) := by
  have hB1 := below_alloc' (below_alloc' (Below.refl w.heap.size w) (.cells #[.int .i64 k, .string t, .bool b, .int .i32 z, .slice A n c] 25)) (.cells #[.string ⟨#[120]⟩, .int .i64 k, .string t, .bool b, .int .i32 z, .slice A n c] 36)
  have hk := Blk.new (w.alloc (.cells #[.int .i64 k, .string t, .bool b, .int .i32 z, .slice A n c] 25)) 36 #[.string ⟨#[120]⟩, .int .i64 k, .string t, .bool b, .int .i32 z, .slice A n c]
  rw [show (w.alloc (.cells #[.int .i64 k, .string t, .bool b, .int .i32 z, .slice A n c] 25)).heap.size = w.heap.size + 1 from by simp] at hk
  have HM := Lib.hid (mapShort_calls _ (w.heap.size + 1) ⟨#[120]⟩ k t b z A n c l (by decide) hk (h.below hB1 (Nat.le_refl _)) hn)
  have HB1 := Lib.hid hB1
  clear hB1 hk h
  go_enter Tryz.func7, Tryz.ntmps7
  go_wp2_with fail
  with_reducible refine Calls.mono HM.out ?_
  rintro e w1 ⟨r, rfl, hr, hB2⟩
  have HR := Lib.hid (And.intro hr (HB1.out.trans (hB2.mono HB1.out.size)))
  clear hr hB2
  go_wp2
  go_ret
  exact ⟨r, rfl, HR.out.1, HR.out.2⟩
set_option maxRecDepth 100000 in
set_option maxHeartbeats 1000000 in
theorem zzFits1_calls (w : World) (k : Int) (t : ByteArray) (b : Bool) (z : Int) (A : Option Addr) (n c : Nat) (l : List ByteArray) (h : SL w A n l) :
    Calls Tryz.prog 5 #[plainV k t b z A n c] w (SomeB w (n ≤ 2147483647)) := by
  have hB1 := below_alloc' (Below.refl w.heap.size w) (.cells #[.int .i64 k, .string t, .bool b, .int .i32 z, .slice A n c] 25)
  have HB1 := Lib.hid hB1
  have HF := Lib.hid (zzFits2_calls _ A n c l (h.below hB1 (Nat.le_refl _)))
  clear hB1 h
  by_cases h1 : 2147483647 < t.size
  · have h1i : (2147483647 : Int) < (t.size : Int) := by omega
    go_enter Tryz.func5, Tryz.ntmps5
    go_wp2
    go_ret
    exact ⟨false, rfl, (fun h => by cases h), HB1.out⟩
  have h1i : ¬ (2147483647 : Int) < (t.size : Int) := by omega
  go_enter Tryz.func5, Tryz.ntmps5
  go_wp2_with fail
  with_reducible refine Calls.mono HF.out ?_
  rintro e w1 ⟨r, rfl, hr, hB2⟩
  have HR := Lib.hid (And.intro hr (HB1.out.trans (hB2.mono HB1.out.size)))
  clear hr hB2
  cases r with
  | false =>
    go_wp2
    go_ret
    exact ⟨false, rfl, (fun h => by cases h), HR.out.2⟩
  | true =>
    go_wp2
    go_ret
    exact ⟨true, rfl, (fun _ => by first | exact HR.out.1 rfl | exact HR.out.1 trivial), HR.out.2⟩
end Go.Proofs.YtlahgmfpdfblkaaGreat.Cl
