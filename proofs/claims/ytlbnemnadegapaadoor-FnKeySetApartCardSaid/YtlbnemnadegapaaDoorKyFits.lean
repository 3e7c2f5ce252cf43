/- laws.setFits; laws.keyData; the conditions are on lengths and on what lies in memory. -/
import Derived.Test.YtlbnemnadegapaaDoorKyLive
import Derived.Deep.LoopGhost
set_option linter.unusedVariables false
set_option linter.unusedSimpArgs false
namespace Go.Proofs.YtlbnemnadegapaaDoor.Ky
open Go.RowKit Go.Proofs.YtlbnemnadegapaaDoor.K Go.Proofs.YtlbnemnadegapaaDoor.Nm
section
variable {w w' : World}
set_option maxRecDepth 100000 in
theorem setFits_calls (w : World) (A A2 : Option Addr) (n c m c2 : Nat) :
    Calls Tryd.prog 20 #[.slice A n c, .slice A2 m c2] w fun e w' => e = .returned (.bool (decide (0 < n ∧ n ≤ 20 ∧ m ≤ 120))) ∧ w = w' := by
  by_cases h1 : 0 < n
  · by_cases h2 : n ≤ 20
    · by_cases h3 : m ≤ 120
      · have k1 : (0 : Int) < (n : Int) := by omega
        have k2 : (n : Int) ≤ 20 := by omega
        have k3 : (m : Int) ≤ 120 := by omega
        rw [decide_eq_true (show 0 < n ∧ n ≤ 20 ∧ m ≤ 120 from ⟨h1, h2, h3⟩)]
        go_enter Tryd.func20, Tryd.ntmps20
        go_wp2
        go_ret
        exact ⟨rfl, rfl⟩
      · have k1 : (0 : Int) < (n : Int) := by omega
        have k2 : (n : Int) ≤ 20 := by omega
        have k3 : ¬ (m : Int) ≤ 120 := by omega
        rw [decide_eq_false (show ¬ (0 < n ∧ n ≤ 20 ∧ m ≤ 120) by omega)]
        go_enter Tryd.func20, Tryd.ntmps20
        go_wp2
        go_ret
        exact ⟨rfl, rfl⟩
    · have k1 : (0 : Int) < (n : Int) := by omega
      have k2 : ¬ (n : Int) ≤ 20 := by omega
      rw [decide_eq_false (show ¬ (0 < n ∧ n ≤ 20 ∧ m ≤ 120) by omega)]
      go_enter Tryd.func20, Tryd.ntmps20
      go_wp2
      go_ret
      exact ⟨rfl, rfl⟩
  · have k1 : ¬ (0 : Int) < (n : Int) := by omega
    rw [decide_eq_false (show ¬ (0 < n ∧ n ≤ 20 ∧ m ≤ 120) by omega)]
    go_enter Tryd.func20, Tryd.ntmps20
    go_wp2
    go_ret
    exact ⟨rfl, rfl⟩
end
end Go.Proofs.YtlbnemnadegapaaDoor.Ky
