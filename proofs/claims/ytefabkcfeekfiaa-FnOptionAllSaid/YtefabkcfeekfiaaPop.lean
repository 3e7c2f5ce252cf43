/- The walk of math/bits.OnesCount64: it counts the set bits; no condition. -/
import Derived.Test.YtefabkcfeekfiaaPopFns
import Derived.Test.YtefabkcfeekfiaaProg
set_option linter.unusedVariables false
set_option linter.unusedSimpArgs false
namespace Go.Proofs.Ytefabkcfeekfiaa.Pop
open Go.RowKit Go.Proofs.Ytefabkcfeekfiaa.K
set_option maxRecDepth 100000 in
set_option maxHeartbeats 2000000 in
theorem OnesCount64_calls (w : World) (x : Nat) (hx : x < 18446744073709551616) :
    Calls Try.prog 11 #[.int .u64 x] w fun e w' => e = .returned (.int .i64 (bitsN 64 x : Nat)) ∧ w = w' := by
  obtain ⟨a, ha⟩ : ∃ a, a = q1 6148914691236517205 x := ⟨_, rfl⟩
  obtain ⟨b, hb⟩ : ∃ b, b = q2 3689348814741910323 a := ⟨_, rfl⟩
  obtain ⟨c, hc⟩ : ∃ c, c = q3 1085102592571150095 b := ⟨_, rfl⟩
  obtain ⟨y, hy⟩ : ∃ y, y = (c + c / 256) % 18446744073709551616 := ⟨_, rfl⟩
  obtain ⟨z, hz⟩ : ∃ z, z = (y + y / 65536) % 18446744073709551616 := ⟨_, rfl⟩
  obtain ⟨u, hu⟩ : ∃ u, u = (z + z / 4294967296) % 18446744073709551616 := ⟨_, rfl⟩
  have s1 := step1 x hx
  have s2 := step2 a (by have := q1_le x; omega)
  have s3 := step3 b (by have := q2_le a; omega)
  have s4 : IntKind.u64.wrap ((c : Int) + (c : Int) / 256) = (((c + c / 256) % 18446744073709551616 : Nat) : Int) := step4 c 256
  have s5 : IntKind.u64.wrap ((y : Int) + (y : Int) / 65536) = (((y + y / 65536) % 18446744073709551616 : Nat) : Int) := step4 y 65536
  have s6 : IntKind.u64.wrap ((z : Int) + (z : Int) / 4294967296) = (((z + z / 4294967296) % 18446744073709551616 : Nat) : Int) := step4 z 4294967296
  have bc : c ≤ 1085102592571150095 := by rw [hc]; exact c8_le b
  have bu : u < 9223372036854775808 := by
    have b1 : y ≤ c + c / 256 := by rw [hy]; exact Nat.mod_le _ _
    have b2 : z ≤ y + y / 65536 := by rw [hz]; exact Nat.mod_le _ _
    have b3 : u ≤ z + z / 4294967296 := by rw [hu]; exact Nat.mod_le _ _
    clear s1 s2 s3 s4 s5 s6 hu hz hy hx
    omega
  have s7 := step7 u bu
  have hfin := pop_all x hx y z u (by unfold c8; rw [← ha, ← hb, ← hc]; exact hy) hz hu
  rw [← ha] at s1
  rw [← hb] at s2
  rw [← hc] at s3
  rw [← hy] at s4
  rw [← hz] at s5
  rw [← hu] at s6
  rw [hfin] at s7
  clear ha hb hc hy hz hu bc hfin
  go_enter Try.func11, Try.ntmps11
  go_wp2
  go_ret
  exact ⟨rfl, rfl⟩
end Go.Proofs.Ytefabkcfeekfiaa.Pop
