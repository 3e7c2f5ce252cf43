/- The walk of the law FnClaimAudience; no condition on the value. -/
import Derived.Test.YtlahgmfpdfblkaaClShort2
import Derived.Test.YtlahgmfpdfblkaaLawClaimOne
set_option linter.unusedVariables false
set_option linter.unusedSimpArgs false
namespace Go.Proofs.Ytlahgmfpdfblkaa.Cl
open Go.RowKit Go.Proofs.Ytlahgmfpdfblkaa.K
def LNone (w : World) (e : Ending) (w' : World) : Prop := e = .returned (.tuple #[.slice none 0 0, .bool false]) ∧ Below w.heap.size w w'
theorem LPost.no {w : World} {k : Int} {t : ByteArray} {l : List ByteArray} (hL : listOf k t l = none) {e : Ending} {w' : World} (h : LPost w k t l e w') : LNone w e w' := by
  obtain ⟨hB, ⟨L', A, n, c, h1, _⟩ | ⟨_, h2⟩⟩ := h
  · rw [hL] at h1; cases h1
  · exact ⟨h2, hB⟩
set_option maxRecDepth 100000 in
set_option maxHeartbeats 4000000 in
theorem FnClaimAudience_calls (w : World) (k : Int) (t : ByteArray) (b : Bool) (z : Int) (A : Option Addr) (n c : Nat) (l : List ByteArray) (h : SL w A n l) :
    Calls Try.prog 4 #[plainV k t b z A n c] w fun e w' => e = .returned (.bool true) ∧ Below w.heap.size w w' := by
  have HL := Lib.hid h
  have HLN := Lib.hid h.len
  clear h
  obtain ⟨wP, hwP⟩ : ∃ wP, wP = w.alloc (.cells #[.int .i64 k, .string t, .bool b, .int .i32 z, .slice A n c] 25) := ⟨_, rfl⟩
  have hB0 : Below w.heap.size w wP := by rw [hwP]; exact below_alloc' (Below.refl w.heap.size w) _
  have hbk : Blk wP w.heap.size 25 #[.int .i64 k, .string t, .bool b, .int .i32 z, .slice A n c] := by rw [hwP]; exact Blk.new w _ _
  have HB0 := Lib.hid hB0
  have HK0 := Lib.hid hbk
  have HZ := Lib.hid (zzFits1_calls wP k t b z A n c l (HL.out.below hB0 (Nat.le_refl _)))
  clear hB0 hbk
  go_enter Try.func4, Try.ntmps4
  go_wp2_with fail
  rw [← hwP]
  clear hwP
  with_reducible refine Calls.mono HZ.out ?_
  rintro e w1 ⟨r, rfl, hr, hB1⟩
  have HB1 := Lib.hid (below_then HB0.out hB1)
  have HK1 := Lib.hid (HK0.out.below hB1 HK0.out.lt)
  have HR := Lib.hid hr
  clear hB1 hr HZ HB0 HK0
  cases r with
  | false =>
    go_wp2
    go_ret
    exact ⟨rfl, HB1.out⟩
  | true =>
  have hnM : n ≤ 2147483647 := HR.out rfl
  obtain ⟨y0, y1, y2, y3, y4⟩ := five_cells' HK1.out
  have HS := Lib.hid (claimShort_calls w1 k t b z A n c l (HL.out.below HB1.out (Nat.le_refl _)) hnM)
  clear HR
  go_wp2_with fail
  with_reducible refine Calls.mono HS.out ?_
  rintro e w2 ⟨r, rfl, hr, hB2⟩
  have HB2 := Lib.hid (below_then HB1.out hB2)
  have HK2 := Lib.hid (HK1.out.below hB2 HK1.out.lt)
  have HR := Lib.hid hr
  have HAW := Lib.hid (claimAwake_calls w2)
  clear hB2 hr HS HB1 HK1 y0 y1 y2 y3 y4
  cases r with
  | false =>
    go_wp2_with fail
    with_reducible refine Calls.mono HAW.out ?_
    rintro e w3 ⟨rfl, hB3⟩
    have HB3 := Lib.hid (below_then HB2.out hB3)
    clear hB3
    go_wp2
    go_ret
    exact ⟨rfl, HB3.out⟩
  | true =>
  have hn20 : n ≤ 100000 := Nat.le_trans (HR.out rfl) (by decide)
  obtain ⟨y0, y1, y2, y3, y4⟩ := five_cells' HK2.out
  have HA := Lib.hid (Audience_calls w2 k t b z A n c l (HL.out.below HB2.out (Nat.le_refl _)) hn20)
  clear HR HAW
  cases hL : listOf k t l with
  | none =>
    have HA := Lib.hid (HA.out.mono fun e w' h => h.no hL)
    have HLL := Lib.hid hL
    clear hL
    go_wp2_with fail
    with_reducible refine Calls.mono HA.out ?_
    rintro e w3 ⟨rfl, hB3⟩
    have HB3 := Lib.hid (below_then HB2.out hB3)
    have HK3 := Lib.hid (HK2.out.below hB3 HK2.out.lt)
    clear hB3 HB2 HK2 y0 y1 y2 y3 y4
    obtain ⟨y0, y1, y2, y3, y4⟩ := five_cells' HK3.out
    have HC := Lib.hid ((claimList_calls w3 k t b z A n c l (HL.out.below HB3.out (Nat.le_refl _))).mono fun e w' h => h.no HLL.out)
    go_wp2_with fail
    with_reducible refine Calls.mono HC.out ?_
    rintro e w4 ⟨rfl, hB4⟩
    have HB4 := Lib.hid (below_then HB3.out hB4)
    have HAW := Lib.hid (claimAwake_calls w4)
    clear hB4 HB3 HK3 HC
    go_wp2_with fail
    with_reducible refine Calls.mono HAW.out ?_
    rintro e w5 ⟨rfl, hB5⟩
    have HB5 := Lib.hid (below_then HB4.out hB5)
    clear hB5
    go_wp2
    go_ret
    exact ⟨rfl, HB5.out⟩
  | some L =>
    obtain ⟨N, hN⟩ : ∃ N, L.length = N := ⟨_, rfl⟩
    have hNb : N ≤ 100000 := by
      have := HLN.out
      unfold listOf at hL
      split at hL
      · cases hL; rw [← hN]; show 1 ≤ 100000; decide
      · split at hL
        · cases hL; omega
        · cases hL
    have HA := Lib.hid (HA.out.mono fun e w' h => h.yes hL hN)
    have HLL := Lib.hid (And.intro hL hN)
    clear hL hN
    go_wp2_with fail
    with_reducible refine Calls.mono HA.out ?_
    rintro e w3 ⟨Aa, ca, rfl, hsa, hB3⟩
    have HB3 := Lib.hid (below_then HB2.out hB3)
    have HK3 := Lib.hid (HK2.out.below hB3 HK2.out.lt)
    have HSa := Lib.hid hsa
    clear hB3 HB2 HK2 hsa y0 y1 y2 y3 y4
    obtain ⟨y0, y1, y2, y3, y4⟩ := five_cells' HK3.out
    have HC := Lib.hid ((claimList_calls w3 k t b z A n c l (HL.out.below HB3.out (Nat.le_refl _))).mono fun e w' h => h.yes HLL.out.1 HLL.out.2)
    go_wp2_with fail
    with_reducible refine Calls.mono HC.out ?_
    rintro e w4 ⟨Ab, cb, rfl, hsb, hB4⟩
    have HB4 := Lib.hid (below_then HB3.out hB4)
    have HE := Lib.hid (SEqual_calls w4 Aa Ab L L N ca N cb (HSa.out.below hB4 (Nat.le_refl _)) hsb hNb hNb true (by simp))
    clear hB4 HB3 HK3 HC hsb HSa
    go_wp2_with fail
    with_reducible refine Calls.mono HE.out ?_
    rintro e w5 ⟨rfl, hB5⟩
    have HB5 := Lib.hid (below_then HB4.out hB5)
    have HAW := Lib.hid (claimAwake_calls w5)
    clear hB5 HB4
    go_wp2_with fail
    with_reducible refine Calls.mono HAW.out ?_
    rintro e w6 ⟨rfl, hB6⟩
    have HB6 := Lib.hid (below_then HB5.out hB6)
    clear hB6
    go_wp2
    go_ret
    exact ⟨rfl, HB6.out⟩
end Go.Proofs.Ytlahgmfpdfblkaa.Cl
