/- The walk of the law FnWrapTorn; no condition on the lengths. -/
import Derived.Test.YtakfblfepgigbaaAwake
set_option linter.unusedVariables false
set_option linter.unusedSimpArgs false
namespace Go.Proofs.Ytakfblfepgigbaa.Wr
open Go.RowKit Go.Proofs.Ytakfblfepgigbaa.K Go.Proofs.Ytakfblfepgigbaa.Own
set_option maxRecDepth 100000 in
set_option maxHeartbeats 2000000 in
theorem FnWrapTorn_calls (w : World) (s m : Nat) (A : Option Addr) (c : Nat) (bs : List UInt8) (hs : s < 18446744073709551616) (hrb : RB w A m bs) :
    Calls Try.prog 7 #[.int .u64 s, .slice A m c] w fun e w' => e = .returned (.bool true) ∧ Below w.heap.size w w' := by
  have HRB := Lib.hid hrb
  clear hrb
  by_cases h1 : m > 2147483647
  · go_enter Try.func7, Try.ntmps7
    go_wp2
    go_ret
    exact ⟨rfl, Below.refl _ _⟩
  by_cases h2 : m > 400
  · have HA := Lib.hid (wrapAwake_calls w)
    go_enter Try.func7, Try.ntmps7
    go_wp2_with (go_at_call 17; refine HA.out.mono ?_; rintro e w1 ⟨rfl, hB1⟩; have HB1 := Lib.hid hB1; clear hB1)
    go_ret
    exact ⟨rfl, HB1.out⟩
  by_cases h3 : m % 8 = 0
  · have h3i : (m : Int) % 8 = 0 := by omega
    have h2i : ¬ (400 : Int) < (m : Int) := by omega
    have HA := Lib.hid (wrapAwake_calls w)
    clear h3
    go_enter Try.func7, Try.ntmps7
    go_wp2_with (go_at_call 17; refine HA.out.mono ?_; rintro e w1 ⟨rfl, hB1⟩; have HB1 := Lib.hid hB1; clear hB1)
    go_ret
    exact ⟨rfl, HB1.out⟩
  · have h3i : ((m : Int) % 8 == 0) = false := by
      rw [beq_eq_false_iff_ne]
      omega
    have h2i : ¬ (400 : Int) < (m : Int) := by omega
    have H3 := Lib.hid h3
    have hb : m ≤ 140737488355328 := by omega
    have hb1 : m ≤ 100000 := by omega
    have hlen := HRB.out.len
    have HL := Lib.hid hlen
    clear h3 hlen
    go_enter Try.func7, Try.ntmps7
    go_wp2_with (first
      | (go_at_call 15; refine (partOwn_calls w A bs m c HRB.out hb).mono ?_; rintro e w1 ⟨v1, rfl, ho1, hB1⟩; obtain ⟨A1, c1, rfl, hc1, hr1⟩ := opn ho1 HL.out.symm; have HR1 := Lib.hid hr1; have HB1 := Lib.hid hB1; clear ho1 hr1 hB1 hc1)
      | (go_at_call 18; refine (Wrap_no w1 s m A1 c1 bs hb1 (.inr H3.out) HR1.out).mono ?_; rintro e w2 ⟨rfl, hB2⟩; have HB2 := Lib.hid (below_then HB1.out hB2); clear hB2)
      | (go_at_call 15; refine (partOwn_calls w2 A bs m c (HRB.out.below HB2.out (Nat.le_refl _)) hb).mono ?_; rintro e w3 ⟨v3, rfl, ho3, hB3⟩; obtain ⟨A3, c3, rfl, hc3, hr3⟩ := opn ho3 HL.out.symm; have HR3 := Lib.hid hr3; have HB3 := Lib.hid (below_then HB2.out hB3); clear ho3 hr3 hB3 hc3)
      | (go_at_call 19; refine (Unwrap_no w3 s m A3 c3 bs hb1 (.inr H3.out) HR3.out).mono ?_; rintro e w4 ⟨rfl, hB4⟩; have HB4 := Lib.hid (below_then HB3.out hB4); clear hB4)
      | (go_at_call 17; refine (wrapAwake_calls w4).mono ?_; rintro e w5 ⟨rfl, hB5⟩; have HB5 := Lib.hid (below_then HB4.out hB5); clear hB5))
    go_ret
    exact ⟨rfl, HB5.out⟩
end Go.Proofs.Ytakfblfepgigbaa.Wr
