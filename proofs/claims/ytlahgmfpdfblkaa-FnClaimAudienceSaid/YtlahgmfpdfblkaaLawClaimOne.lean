/- The walk of the law FnClaimOne; no condition on the length. -/
import Derived.Test.YtlahgmfpdfblkaaClAud
set_option linter.unusedVariables false
set_option linter.unusedSimpArgs false
namespace Go.Proofs.Ytlahgmfpdfblkaa.Cl
open Go.RowKit Go.Proofs.Ytlahgmfpdfblkaa.K
theorem five_cells' {w : World} {g : Nat} {T : TypeId} {a b c d e : Value} (h : Blk w g T #[a, b, c, d, e]) : w.cell? ⟨g, 0, none⟩ = some a ∧ w.cell? ⟨g, 1, none⟩ = some b ∧ w.cell? ⟨g, 2, none⟩ = some c ∧ w.cell? ⟨g, 3, none⟩ = some d ∧ w.cell? ⟨g, 4, none⟩ = some e := five_cells h
def LOne (w : World) (L : List ByteArray) (N : Nat) (e : Ending) (w' : World) : Prop := ∃ A c, e = .returned (.tuple #[.slice A N c, .bool true]) ∧ SL w' A N L ∧ Below w.heap.size w w'
theorem LPost.yes {w : World} {k : Int} {t : ByteArray} {l L : List ByteArray} {N : Nat} (hL : listOf k t l = some L) (hN : L.length = N) {e : Ending} {w' : World} (h : LPost w k t l e w') : LOne w L N e w' := by
  obtain ⟨hB, ⟨L', A, n, c, h1, rfl, h3⟩ | ⟨h1, _⟩⟩ := h
  · rw [hL] at h1
    obtain rfl := Option.some.inj h1
    have := h3.len
    rw [hN] at this
    subst this
    exact ⟨A, c, rfl, h3, hB⟩
  · rw [hL] at h1; cases h1
set_option maxRecDepth 100000 in
set_option maxHeartbeats 4000000 in
theorem FnClaimOne_calls (w : World) (s : ByteArray) :
    Calls Try.prog 3 #[.string s] w fun e w' => e = .returned (.bool true) ∧ Below w.heap.size w w' := by
  obtain ⟨ns, hns⟩ : ∃ ns, ns = s.size := ⟨_, rfl⟩
  have HNS := Lib.hid hns
  have HAW0 := Lib.hid (claimAwake_calls w)
  by_cases h1 : 2147483647 < s.size
  · have h1i : (2147483647 : Int) < (s.size : Int) := by omega
    go_enter Try.func3, Try.ntmps3
    go_wp2
    go_ret
    exact ⟨rfl, Below.refl _ _⟩
  have h1i : ¬ (2147483647 : Int) < (s.size : Int) := by omega
  by_cases h2 : 200 < s.size
  · have h2i : (200 : Int) < (s.size : Int) := by omega
    go_enter Try.func3, Try.ntmps3
    go_wp2_with fail
    refine HAW0.out.mono ?_
    rintro e w1 ⟨rfl, hB1⟩
    have HB1 := Lib.hid hB1
    clear hB1
    go_wp2
    go_ret
    exact ⟨rfl, HB1.out⟩
  have h2i : ¬ (200 : Int) < (s.size : Int) := by omega
  have HB0 := Lib.hid (below_alloc' (below_alloc' (below_alloc' (Below.refl w.heap.size w) (.cells #[.string s] 9)) (.cells #[.int .i64 0, .string s, .bool false, .int .i32 0, .slice none 0 0] 25)) (.cells #[.int .i64 3, .string ⟨#[]⟩, .bool false, .int .i32 0, .slice (some ⟨w.heap.size, 0, none⟩) 1 1] 25))
  have HK1 : Hid (Blk (((w.alloc (.cells #[.string s] 9)).alloc (.cells #[.int .i64 0, .string s, .bool false, .int .i32 0, .slice none 0 0] 25)).alloc (.cells #[.int .i64 3, .string ⟨#[]⟩, .bool false, .int .i32 0, .slice (some ⟨w.heap.size, 0, none⟩) 1 1] 25)) (w.heap.size + 1) 25 #[.int .i64 0, .string s, .bool false, .int .i32 0, .slice none 0 0]) := Lib.hid (by
    have := (Blk.new (w.alloc (.cells #[.string s] 9)) 25 #[.int .i64 0, .string s, .bool false, .int .i32 0, .slice none 0 0]).alloc (.cells #[.int .i64 3, .string ⟨#[]⟩, .bool false, .int .i32 0, .slice (some ⟨w.heap.size, 0, none⟩) 1 1] 25)
    rwa [show (w.alloc (.cells #[.string s] 9)).heap.size = w.heap.size + 1 from by simp] at this)
  have HK2 : Hid (Blk (((w.alloc (.cells #[.string s] 9)).alloc (.cells #[.int .i64 0, .string s, .bool false, .int .i32 0, .slice none 0 0] 25)).alloc (.cells #[.int .i64 3, .string ⟨#[]⟩, .bool false, .int .i32 0, .slice (some ⟨w.heap.size, 0, none⟩) 1 1] 25)) (w.heap.size + 1 + 1) 25 #[.int .i64 3, .string ⟨#[]⟩, .bool false, .int .i32 0, .slice (some ⟨w.heap.size, 0, none⟩) 1 1]) := Lib.hid (by
    have := Blk.new ((w.alloc (.cells #[.string s] 9)).alloc (.cells #[.int .i64 0, .string s, .bool false, .int .i32 0, .slice none 0 0] 25)) 25 #[.int .i64 3, .string ⟨#[]⟩, .bool false, .int .i32 0, .slice (some ⟨w.heap.size, 0, none⟩) 1 1]
    rwa [show ((w.alloc (.cells #[.string s] 9)).alloc (.cells #[.int .i64 0, .string s, .bool false, .int .i32 0, .slice none 0 0] 25)).heap.size = w.heap.size + 1 + 1 from by simp] at this)
  have HSL : Hid (SL (((w.alloc (.cells #[.string s] 9)).alloc (.cells #[.int .i64 0, .string s, .bool false, .int .i32 0, .slice none 0 0] 25)).alloc (.cells #[.int .i64 3, .string ⟨#[]⟩, .bool false, .int .i32 0, .slice (some ⟨w.heap.size, 0, none⟩) 1 1] 25)) (some ⟨w.heap.size, 0, none⟩) 1 [s]) := Lib.hid ((lits w s).below ((Below.refl (w.alloc (.cells #[.string s] 9)).heap.size (w.alloc (.cells #[.string s] 9))).alloc (Nat.le_refl _) _ |>.alloc (by simp) _) (Nat.le_refl _))
  obtain ⟨w0, hw0⟩ : ∃ w0, w0 = (((w.alloc (.cells #[.string s] 9)).alloc (.cells #[.int .i64 0, .string s, .bool false, .int .i32 0, .slice none 0 0] 25)).alloc (.cells #[.int .i64 3, .string ⟨#[]⟩, .bool false, .int .i32 0, .slice (some ⟨w.heap.size, 0, none⟩) 1 1] 25)) := ⟨_, rfl⟩
  rw [← hw0] at HB0 HK1 HK2 HSL
  have HA := Lib.hid ((Accepted_calls w0 0 s false 0 none 0 0 [] Reads.none_ (by decide)).mono fun e w' h => h.yes (L := [s]) (N := 1) rfl rfl)
  clear HAW0
  go_enter Try.func3, Try.ntmps3
  go_wp2_with fail
  rw [← hw0]
  clear hw0
  with_reducible refine Calls.mono HA.out ?_
  rintro e w1 ⟨Aa, ca, rfl, hsa, hB1⟩
  have HB1 := Lib.hid (below_then HB0.out hB1)
  have HK11 := Lib.hid (HK1.out.below hB1 HK1.out.lt)
  have HK21 := Lib.hid (HK2.out.below hB1 HK2.out.lt)
  have HSL1 := Lib.hid (HSL.out.below hB1 (Nat.le_refl _))
  have HSa1 := Lib.hid hsa
  clear hsa hB1 HA HB0 HK1 HK2 HSL
  obtain ⟨q0, q1, q2, q3, q4⟩ := five_cells' HK21.out
  have HA := Lib.hid ((Accepted_calls w1 3 ⟨#[]⟩ false 0 (some ⟨w.heap.size, 0, none⟩) 1 1 [s] HSL1.out (by decide)).mono fun e w' h => h.yes (L := [s]) (N := 1) rfl rfl)
  go_wp2_with fail
  with_reducible refine Calls.mono HA.out ?_
  rintro e w2 ⟨Ab, cb, rfl, hsb, hB2⟩
  have HB2 := Lib.hid (below_then HB1.out hB2)
  have HK12 := Lib.hid (HK11.out.below hB2 HK11.out.lt)
  have HK22 := Lib.hid (HK21.out.below hB2 HK21.out.lt)
  have HSL2 := Lib.hid (HSL1.out.below hB2 (Nat.le_refl _))
  have HSa2 := Lib.hid (HSa1.out.below hB2 (Nat.le_refl _))
  have HSb2 := Lib.hid hsb
  clear hsb hB2 HA HB1 HK11 HK21 HSL1 HSa1 q0 q1 q2 q3 q4
  obtain ⟨q0, q1, q2, q3, q4⟩ := five_cells' HK12.out
  have HA := Lib.hid ((Audience_calls w2 0 s false 0 none 0 0 [] Reads.none_ (by decide)).mono fun e w' h => h.yes (L := [s]) (N := 1) rfl rfl)
  go_wp2_with fail
  with_reducible refine Calls.mono HA.out ?_
  rintro e w3 ⟨Ac, cc, rfl, hsc, hB3⟩
  have HB3 := Lib.hid (below_then HB2.out hB3)
  have HK13 := Lib.hid (HK12.out.below hB3 HK12.out.lt)
  have HK23 := Lib.hid (HK22.out.below hB3 HK22.out.lt)
  have HSL3 := Lib.hid (HSL2.out.below hB3 (Nat.le_refl _))
  have HSa3 := Lib.hid (HSa2.out.below hB3 (Nat.le_refl _))
  have HSb3 := Lib.hid (HSb2.out.below hB3 (Nat.le_refl _))
  have HSc3 := Lib.hid hsc
  clear hsc hB3 HA HB2 HK12 HK22 HSL2 HSa2 HSb2 q0 q1 q2 q3 q4
  obtain ⟨q0, q1, q2, q3, q4⟩ := five_cells' HK23.out
  have HA := Lib.hid ((Audience_calls w3 3 ⟨#[]⟩ false 0 (some ⟨w.heap.size, 0, none⟩) 1 1 [s] HSL3.out (by decide)).mono fun e w' h => h.yes (L := [s]) (N := 1) rfl rfl)
  go_wp2_with fail
  with_reducible refine Calls.mono HA.out ?_
  rintro e w4 ⟨Ad, cd, rfl, hsd, hB4⟩
  have HB4 := Lib.hid (below_then HB3.out hB4)
  have HSa4 := Lib.hid (HSa3.out.below hB4 (Nat.le_refl _))
  have HSb4 := Lib.hid (HSb3.out.below hB4 (Nat.le_refl _))
  have HSc4 := Lib.hid (HSc3.out.below hB4 (Nat.le_refl _))
  have HSd4 := Lib.hid hsd
  clear hsd hB4 HA HB3 HK13 HK23 HSL3 HSa3 HSb3 HSc3 q0 q1 q2 q3 q4
  have HE := Lib.hid (SEqual_calls w4 Aa Ab [s] [s] 1 ca 1 cb HSa4.out HSb4.out (by decide) (by decide) true (by simp))
  go_wp2_with fail
  with_reducible refine Calls.mono HE.out ?_
  rintro e w5 ⟨rfl, hB5⟩
  have HB5 := Lib.hid (below_then HB4.out hB5)
  have HSa5 := Lib.hid (HSa4.out.below hB5 (Nat.le_refl _))
  have HSc5 := Lib.hid (HSc4.out.below hB5 (Nat.le_refl _))
  have HSd5 := Lib.hid (HSd4.out.below hB5 (Nat.le_refl _))
  clear hB5 HE HB4 HSa4 HSb4 HSc4 HSd4
  have HE := Lib.hid (SEqual_calls w5 Aa Ac [s] [s] 1 ca 1 cc HSa5.out HSc5.out (by decide) (by decide) true (by simp))
  go_wp2_with fail
  with_reducible refine Calls.mono HE.out ?_
  rintro e w6 ⟨rfl, hB6⟩
  have HB6 := Lib.hid (below_then HB5.out hB6)
  have HSa6 := Lib.hid (HSa5.out.below hB6 (Nat.le_refl _))
  have HSd6 := Lib.hid (HSd5.out.below hB6 (Nat.le_refl _))
  clear hB6 HE HB5 HSa5 HSc5 HSd5
  have HE := Lib.hid (SEqual_calls w6 Aa Ad [s] [s] 1 ca 1 cd HSa6.out HSd6.out (by decide) (by decide) true (by simp))
  go_wp2_with fail
  with_reducible refine Calls.mono HE.out ?_
  rintro e w7 ⟨rfl, hB7⟩
  have HB7 := Lib.hid (below_alloc' (below_then HB6.out hB7) (.cells #[.string s] 9))
  have HSa7 := Lib.hid ((HSa6.out.below hB7 (Nat.le_refl _)).below (below_alloc' (Below.refl w7.heap.size w7) (.cells #[.string s] 9)) (Nat.le_refl _))
  clear hB7 HE HB6 HSa6 HSd6
  have HE := Lib.hid (SEqual_calls _ Aa (some ⟨w7.heap.size, 0, none⟩) [s] [s] 1 ca 1 1 HSa7.out (lits w7 s) (by decide) (by decide) true (by simp))
  go_wp2_with fail
  with_reducible refine Calls.mono HE.out ?_
  rintro e w8 ⟨rfl, hB8⟩
  have HB8 := Lib.hid (HB7.out.trans (hB8.mono HB7.out.size))
  have HAW := Lib.hid (claimAwake_calls w8)
  clear hB8 HE HB7 HSa7
  go_wp2_with fail
  with_reducible refine Calls.mono HAW.out ?_
  rintro e w9 ⟨rfl, hB9⟩
  have HB9 := Lib.hid (below_then HB8.out hB9)
  clear hB9
  go_wp2
  go_ret
  exact ⟨rfl, HB9.out⟩
end Go.Proofs.Ytlahgmfpdfblkaa.Cl
