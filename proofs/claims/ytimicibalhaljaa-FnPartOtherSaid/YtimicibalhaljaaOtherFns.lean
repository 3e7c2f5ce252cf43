/- The walk of zzFits16. -/
import Derived.Test.YtimicibalhaljaaLawDecode
set_option linter.unusedVariables false
set_option linter.unusedSimpArgs false
namespace Go.Proofs.Ytimicibalhaljaa.B64
open Go.RowKit Go.Proofs.Ytimicibalhaljaa.K Go.Proofs.Ytimicibalhaljaa.Own
set_option maxRecDepth 100000 in
set_option maxHeartbeats 1000000 in
theorem zzFits16_calls (w : World) (A0 A1 A2 : Option Addr) (n0 n1 n2 c0 c1 c2 : Nat) (r : Bool) (hr : r = decide (n0 ≤ 2147483647 ∧ n1 ≤ 2147483647 ∧ n2 ≤ 2147483647)) :
    Calls Try.prog 23 #[.agg #[.slice A0 n0 c0, .slice A1 n1 c1, .slice A2 n2 c2]] w fun e w' => e = .returned (.bool r) ∧ Below w.heap.size w w' := by
  have HR := Lib.hid hr
  clear hr
  have HB := Lib.hid (below_alloc' (Below.refl w.heap.size w) (.cells #[.slice A0 n0 c0, .slice A1 n1 c1, .slice A2 n2 c2] 36))
  go_enter Try.func23, Try.ntmps23
  go_wp2
  obtain ⟨w1, hw1⟩ : ∃ w1, w1 = w.alloc (.cells #[.slice A0 n0 c0, .slice A1 n1 c1, .slice A2 n2 c2] 36) := ⟨_, rfl⟩
  rw [← hw1] at HB ⊢
  clear hw1
  go_loopg [6] 3 (fun g u6 wr => ∃ k : Nat, g + k = 3 ∧ u6 = .int .i64 k ∧ Hid ((0 < k → n0 ≤ 2147483647) ∧ (1 < k → n1 ≤ 2147483647) ∧ (2 < k → n2 ≤ 2147483647)) ∧ wr = w1)
  case atStart => exact ⟨0, rfl, rfl, ⟨fun h => by omega, fun h => by omega, fun h => by omega⟩, rfl⟩
  case round =>
    obtain ⟨k, hgk, rfl, hk, hw⟩ := hrel
    subst hw
    rcases (by omega : k = 0 ∨ k = 1 ∨ k = 2 ∨ k = 3) with rfl | rfl | rfl | rfl
    · have hix : ∀ W : World, Sem.run Try.prog (Instr.index 36 (.agg #[.slice A0 n0 c0, .slice A1 n1 c1, .slice A2 n2 c2]) (.int .i64 0)) W = .ok (.slice A0 n0 c0) W := fun W => by kernel_rfl
      by_cases hb : n0 ≤ 2147483647
      · have hbi : ¬ (2147483647 : Int) < (n0 : Int) := by omega
        go_wp2
        go_roundg (3 - (0 + 1))
        case measure => omega
        case rel => exact ⟨0 + 1, by omega, rfl, ⟨fun h => by have := hk.out; omega, fun h => by have := hk.out; omega, fun h => by have := hk.out; omega⟩, rfl⟩
      · have hbi : (2147483647 : Int) < (n0 : Int) := by omega
        go_wp2
        go_ret
        exact ⟨ret_bool (by rw [HR.out, decide_eq_false (by omega)]), HB.out⟩
    · have hix : ∀ W : World, Sem.run Try.prog (Instr.index 36 (.agg #[.slice A0 n0 c0, .slice A1 n1 c1, .slice A2 n2 c2]) (.int .i64 1)) W = .ok (.slice A1 n1 c1) W := fun W => by kernel_rfl
      by_cases hb : n1 ≤ 2147483647
      · have hbi : ¬ (2147483647 : Int) < (n1 : Int) := by omega
        go_wp2
        go_roundg (3 - (1 + 1))
        case measure => omega
        case rel => exact ⟨1 + 1, by omega, rfl, ⟨fun h => by have := hk.out; omega, fun h => by have := hk.out; omega, fun h => by have := hk.out; omega⟩, rfl⟩
      · have hbi : (2147483647 : Int) < (n1 : Int) := by omega
        go_wp2
        go_ret
        exact ⟨ret_bool (by rw [HR.out, decide_eq_false (by omega)]), HB.out⟩
    · have hix : ∀ W : World, Sem.run Try.prog (Instr.index 36 (.agg #[.slice A0 n0 c0, .slice A1 n1 c1, .slice A2 n2 c2]) (.int .i64 2)) W = .ok (.slice A2 n2 c2) W := fun W => by kernel_rfl
      by_cases hb : n2 ≤ 2147483647
      · have hbi : ¬ (2147483647 : Int) < (n2 : Int) := by omega
        go_wp2
        go_roundg (3 - (2 + 1))
        case measure => omega
        case rel => exact ⟨2 + 1, by omega, rfl, ⟨fun h => by have := hk.out; omega, fun h => by have := hk.out; omega, fun h => by have := hk.out; omega⟩, rfl⟩
      · have hbi : (2147483647 : Int) < (n2 : Int) := by omega
        go_wp2
        go_ret
        exact ⟨ret_bool (by rw [HR.out, decide_eq_false (by omega)]), HB.out⟩
    · go_wp2
      go_ret
      exact ⟨ret_bool (by have := hk.out; rw [HR.out, decide_eq_true (by omega)]), HB.out⟩
end Go.Proofs.Ytimicibalhaljaa.B64
