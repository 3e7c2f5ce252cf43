/- bits.Len64, bits.Len, nextPowerOfTwo, (*xorshift).Next at the sizes that the sort meets. The conditions: sizes from 8 to 19. -/
import Derived.Test.YtenneobgjalfhaaNmSort2
import Derived.Test.YtenneobgjalfhaaProg
import Derived.Great.Walk
import Derived.RegionTactic
import Derived.BigRegion
import Derived.Laws.Bits64
import Derived.Laws.Bits64b
set_option linter.unusedVariables false
set_option linter.unusedSimpArgs false
namespace Go.Proofs.Ytenneobgjalfhaa.So
open Go.RowKit Go.Proofs.Ytenneobgjalfhaa.K
set_option maxRecDepth 100000 in
theorem Len64_1 (w : World) : Calls Try.prog 73 #[.int .u64 1] w fun e w' => e = .returned (.int .i64 1) ∧ w = w' := by
  go_enter Try.func73, Try.ntmps73
  go_wp2
  go_ret
  exact ⟨by kernel_rfl, rfl⟩
set_option maxRecDepth 100000 in
theorem Len_1 (w : World) : Calls Try.prog 56 #[.int .u64 1] w fun e w' => e = .returned (.int .i64 1) ∧ w = w' := by
  go_enter Try.func56, Try.ntmps56
  go_wp2_with fail
  refine (Len64_1 w).mono ?_
  rintro e w' ⟨rfl, rfl⟩
  go_wp2
  go_ret
  exact ⟨rfl, rfl⟩
set_option maxRecDepth 100000 in
theorem Len64_2 (w : World) : Calls Try.prog 73 #[.int .u64 2] w fun e w' => e = .returned (.int .i64 2) ∧ w = w' := by
  go_enter Try.func73, Try.ntmps73
  go_wp2
  go_ret
  exact ⟨by kernel_rfl, rfl⟩
set_option maxRecDepth 100000 in
theorem Len_2 (w : World) : Calls Try.prog 56 #[.int .u64 2] w fun e w' => e = .returned (.int .i64 2) ∧ w = w' := by
  go_enter Try.func56, Try.ntmps56
  go_wp2_with fail
  refine (Len64_2 w).mono ?_
  rintro e w' ⟨rfl, rfl⟩
  go_wp2
  go_ret
  exact ⟨rfl, rfl⟩
set_option maxRecDepth 100000 in
theorem Len64_3 (w : World) : Calls Try.prog 73 #[.int .u64 3] w fun e w' => e = .returned (.int .i64 2) ∧ w = w' := by
  go_enter Try.func73, Try.ntmps73
  go_wp2
  go_ret
  exact ⟨by kernel_rfl, rfl⟩
set_option maxRecDepth 100000 in
theorem Len_3 (w : World) : Calls Try.prog 56 #[.int .u64 3] w fun e w' => e = .returned (.int .i64 2) ∧ w = w' := by
  go_enter Try.func56, Try.ntmps56
  go_wp2_with fail
  refine (Len64_3 w).mono ?_
  rintro e w' ⟨rfl, rfl⟩
  go_wp2
  go_ret
  exact ⟨rfl, rfl⟩
set_option maxRecDepth 100000 in
theorem Len64_4 (w : World) : Calls Try.prog 73 #[.int .u64 4] w fun e w' => e = .returned (.int .i64 3) ∧ w = w' := by
  go_enter Try.func73, Try.ntmps73
  go_wp2
  go_ret
  exact ⟨by kernel_rfl, rfl⟩
set_option maxRecDepth 100000 in
theorem Len_4 (w : World) : Calls Try.prog 56 #[.int .u64 4] w fun e w' => e = .returned (.int .i64 3) ∧ w = w' := by
  go_enter Try.func56, Try.ntmps56
  go_wp2_with fail
  refine (Len64_4 w).mono ?_
  rintro e w' ⟨rfl, rfl⟩
  go_wp2
  go_ret
  exact ⟨rfl, rfl⟩
set_option maxRecDepth 100000 in
theorem Len64_5 (w : World) : Calls Try.prog 73 #[.int .u64 5] w fun e w' => e = .returned (.int .i64 3) ∧ w = w' := by
  go_enter Try.func73, Try.ntmps73
  go_wp2
  go_ret
  exact ⟨by kernel_rfl, rfl⟩
set_option maxRecDepth 100000 in
theorem Len_5 (w : World) : Calls Try.prog 56 #[.int .u64 5] w fun e w' => e = .returned (.int .i64 3) ∧ w = w' := by
  go_enter Try.func56, Try.ntmps56
  go_wp2_with fail
  refine (Len64_5 w).mono ?_
  rintro e w' ⟨rfl, rfl⟩
  go_wp2
  go_ret
  exact ⟨rfl, rfl⟩
set_option maxRecDepth 100000 in
theorem Len64_6 (w : World) : Calls Try.prog 73 #[.int .u64 6] w fun e w' => e = .returned (.int .i64 3) ∧ w = w' := by
  go_enter Try.func73, Try.ntmps73
  go_wp2
  go_ret
  exact ⟨by kernel_rfl, rfl⟩
set_option maxRecDepth 100000 in
theorem Len_6 (w : World) : Calls Try.prog 56 #[.int .u64 6] w fun e w' => e = .returned (.int .i64 3) ∧ w = w' := by
  go_enter Try.func56, Try.ntmps56
  go_wp2_with fail
  refine (Len64_6 w).mono ?_
  rintro e w' ⟨rfl, rfl⟩
  go_wp2
  go_ret
  exact ⟨rfl, rfl⟩
set_option maxRecDepth 100000 in
theorem Len64_7 (w : World) : Calls Try.prog 73 #[.int .u64 7] w fun e w' => e = .returned (.int .i64 3) ∧ w = w' := by
  go_enter Try.func73, Try.ntmps73
  go_wp2
  go_ret
  exact ⟨by kernel_rfl, rfl⟩
set_option maxRecDepth 100000 in
theorem Len_7 (w : World) : Calls Try.prog 56 #[.int .u64 7] w fun e w' => e = .returned (.int .i64 3) ∧ w = w' := by
  go_enter Try.func56, Try.ntmps56
  go_wp2_with fail
  refine (Len64_7 w).mono ?_
  rintro e w' ⟨rfl, rfl⟩
  go_wp2
  go_ret
  exact ⟨rfl, rfl⟩
set_option maxRecDepth 100000 in
theorem Len64_8 (w : World) : Calls Try.prog 73 #[.int .u64 8] w fun e w' => e = .returned (.int .i64 4) ∧ w = w' := by
  go_enter Try.func73, Try.ntmps73
  go_wp2
  go_ret
  exact ⟨by kernel_rfl, rfl⟩
set_option maxRecDepth 100000 in
theorem Len_8 (w : World) : Calls Try.prog 56 #[.int .u64 8] w fun e w' => e = .returned (.int .i64 4) ∧ w = w' := by
  go_enter Try.func56, Try.ntmps56
  go_wp2_with fail
  refine (Len64_8 w).mono ?_
  rintro e w' ⟨rfl, rfl⟩
  go_wp2
  go_ret
  exact ⟨rfl, rfl⟩
set_option maxRecDepth 100000 in
theorem Len64_9 (w : World) : Calls Try.prog 73 #[.int .u64 9] w fun e w' => e = .returned (.int .i64 4) ∧ w = w' := by
  go_enter Try.func73, Try.ntmps73
  go_wp2
  go_ret
  exact ⟨by kernel_rfl, rfl⟩
set_option maxRecDepth 100000 in
theorem Len_9 (w : World) : Calls Try.prog 56 #[.int .u64 9] w fun e w' => e = .returned (.int .i64 4) ∧ w = w' := by
  go_enter Try.func56, Try.ntmps56
  go_wp2_with fail
  refine (Len64_9 w).mono ?_
  rintro e w' ⟨rfl, rfl⟩
  go_wp2
  go_ret
  exact ⟨rfl, rfl⟩
set_option maxRecDepth 100000 in
theorem Len64_10 (w : World) : Calls Try.prog 73 #[.int .u64 10] w fun e w' => e = .returned (.int .i64 4) ∧ w = w' := by
  go_enter Try.func73, Try.ntmps73
  go_wp2
  go_ret
  exact ⟨by kernel_rfl, rfl⟩
set_option maxRecDepth 100000 in
theorem Len_10 (w : World) : Calls Try.prog 56 #[.int .u64 10] w fun e w' => e = .returned (.int .i64 4) ∧ w = w' := by
  go_enter Try.func56, Try.ntmps56
  go_wp2_with fail
  refine (Len64_10 w).mono ?_
  rintro e w' ⟨rfl, rfl⟩
  go_wp2
  go_ret
  exact ⟨rfl, rfl⟩
set_option maxRecDepth 100000 in
theorem Len64_11 (w : World) : Calls Try.prog 73 #[.int .u64 11] w fun e w' => e = .returned (.int .i64 4) ∧ w = w' := by
  go_enter Try.func73, Try.ntmps73
  go_wp2
  go_ret
  exact ⟨by kernel_rfl, rfl⟩
set_option maxRecDepth 100000 in
theorem Len_11 (w : World) : Calls Try.prog 56 #[.int .u64 11] w fun e w' => e = .returned (.int .i64 4) ∧ w = w' := by
  go_enter Try.func56, Try.ntmps56
  go_wp2_with fail
  refine (Len64_11 w).mono ?_
  rintro e w' ⟨rfl, rfl⟩
  go_wp2
  go_ret
  exact ⟨rfl, rfl⟩
set_option maxRecDepth 100000 in
theorem Len64_12 (w : World) : Calls Try.prog 73 #[.int .u64 12] w fun e w' => e = .returned (.int .i64 4) ∧ w = w' := by
  go_enter Try.func73, Try.ntmps73
  go_wp2
  go_ret
  exact ⟨by kernel_rfl, rfl⟩
set_option maxRecDepth 100000 in
theorem Len_12 (w : World) : Calls Try.prog 56 #[.int .u64 12] w fun e w' => e = .returned (.int .i64 4) ∧ w = w' := by
  go_enter Try.func56, Try.ntmps56
  go_wp2_with fail
  refine (Len64_12 w).mono ?_
  rintro e w' ⟨rfl, rfl⟩
  go_wp2
  go_ret
  exact ⟨rfl, rfl⟩
set_option maxRecDepth 100000 in
theorem Len64_13 (w : World) : Calls Try.prog 73 #[.int .u64 13] w fun e w' => e = .returned (.int .i64 4) ∧ w = w' := by
  go_enter Try.func73, Try.ntmps73
  go_wp2
  go_ret
  exact ⟨by kernel_rfl, rfl⟩
set_option maxRecDepth 100000 in
theorem Len_13 (w : World) : Calls Try.prog 56 #[.int .u64 13] w fun e w' => e = .returned (.int .i64 4) ∧ w = w' := by
  go_enter Try.func56, Try.ntmps56
  go_wp2_with fail
  refine (Len64_13 w).mono ?_
  rintro e w' ⟨rfl, rfl⟩
  go_wp2
  go_ret
  exact ⟨rfl, rfl⟩
set_option maxRecDepth 100000 in
theorem Len64_14 (w : World) : Calls Try.prog 73 #[.int .u64 14] w fun e w' => e = .returned (.int .i64 4) ∧ w = w' := by
  go_enter Try.func73, Try.ntmps73
  go_wp2
  go_ret
  exact ⟨by kernel_rfl, rfl⟩
set_option maxRecDepth 100000 in
theorem Len_14 (w : World) : Calls Try.prog 56 #[.int .u64 14] w fun e w' => e = .returned (.int .i64 4) ∧ w = w' := by
  go_enter Try.func56, Try.ntmps56
  go_wp2_with fail
  refine (Len64_14 w).mono ?_
  rintro e w' ⟨rfl, rfl⟩
  go_wp2
  go_ret
  exact ⟨rfl, rfl⟩
set_option maxRecDepth 100000 in
theorem Len64_15 (w : World) : Calls Try.prog 73 #[.int .u64 15] w fun e w' => e = .returned (.int .i64 4) ∧ w = w' := by
  go_enter Try.func73, Try.ntmps73
  go_wp2
  go_ret
  exact ⟨by kernel_rfl, rfl⟩
set_option maxRecDepth 100000 in
theorem Len_15 (w : World) : Calls Try.prog 56 #[.int .u64 15] w fun e w' => e = .returned (.int .i64 4) ∧ w = w' := by
  go_enter Try.func56, Try.ntmps56
  go_wp2_with fail
  refine (Len64_15 w).mono ?_
  rintro e w' ⟨rfl, rfl⟩
  go_wp2
  go_ret
  exact ⟨rfl, rfl⟩
set_option maxRecDepth 100000 in
theorem Len64_16 (w : World) : Calls Try.prog 73 #[.int .u64 16] w fun e w' => e = .returned (.int .i64 5) ∧ w = w' := by
  go_enter Try.func73, Try.ntmps73
  go_wp2
  go_ret
  exact ⟨by kernel_rfl, rfl⟩
set_option maxRecDepth 100000 in
theorem Len_16 (w : World) : Calls Try.prog 56 #[.int .u64 16] w fun e w' => e = .returned (.int .i64 5) ∧ w = w' := by
  go_enter Try.func56, Try.ntmps56
  go_wp2_with fail
  refine (Len64_16 w).mono ?_
  rintro e w' ⟨rfl, rfl⟩
  go_wp2
  go_ret
  exact ⟨rfl, rfl⟩
set_option maxRecDepth 100000 in
theorem Len64_17 (w : World) : Calls Try.prog 73 #[.int .u64 17] w fun e w' => e = .returned (.int .i64 5) ∧ w = w' := by
  go_enter Try.func73, Try.ntmps73
  go_wp2
  go_ret
  exact ⟨by kernel_rfl, rfl⟩
set_option maxRecDepth 100000 in
theorem Len_17 (w : World) : Calls Try.prog 56 #[.int .u64 17] w fun e w' => e = .returned (.int .i64 5) ∧ w = w' := by
  go_enter Try.func56, Try.ntmps56
  go_wp2_with fail
  refine (Len64_17 w).mono ?_
  rintro e w' ⟨rfl, rfl⟩
  go_wp2
  go_ret
  exact ⟨rfl, rfl⟩
set_option maxRecDepth 100000 in
theorem Len64_18 (w : World) : Calls Try.prog 73 #[.int .u64 18] w fun e w' => e = .returned (.int .i64 5) ∧ w = w' := by
  go_enter Try.func73, Try.ntmps73
  go_wp2
  go_ret
  exact ⟨by kernel_rfl, rfl⟩
set_option maxRecDepth 100000 in
theorem Len_18 (w : World) : Calls Try.prog 56 #[.int .u64 18] w fun e w' => e = .returned (.int .i64 5) ∧ w = w' := by
  go_enter Try.func56, Try.ntmps56
  go_wp2_with fail
  refine (Len64_18 w).mono ?_
  rintro e w' ⟨rfl, rfl⟩
  go_wp2
  go_ret
  exact ⟨rfl, rfl⟩
set_option maxRecDepth 100000 in
theorem Len64_19 (w : World) : Calls Try.prog 73 #[.int .u64 19] w fun e w' => e = .returned (.int .i64 5) ∧ w = w' := by
  go_enter Try.func73, Try.ntmps73
  go_wp2
  go_ret
  exact ⟨by kernel_rfl, rfl⟩
set_option maxRecDepth 100000 in
theorem Len_19 (w : World) : Calls Try.prog 56 #[.int .u64 19] w fun e w' => e = .returned (.int .i64 5) ∧ w = w' := by
  go_enter Try.func56, Try.ntmps56
  go_wp2_with fail
  refine (Len64_19 w).mono ?_
  rintro e w' ⟨rfl, rfl⟩
  go_wp2
  go_ret
  exact ⟨rfl, rfl⟩
set_option maxRecDepth 100000 in
theorem nextPower_8 (w : World) : Calls Try.prog 86 #[.int .i64 8] w fun e w' => e = .returned (.int .u64 16) ∧ w = w' := by
  go_enter Try.func86, Try.ntmps86
  go_wp2_with fail
  refine (Len_8 w).mono ?_
  rintro e w' ⟨rfl, rfl⟩
  go_wp2
  go_ret
  exact ⟨rfl, rfl⟩
set_option maxRecDepth 100000 in
theorem nextPower_9 (w : World) : Calls Try.prog 86 #[.int .i64 9] w fun e w' => e = .returned (.int .u64 16) ∧ w = w' := by
  go_enter Try.func86, Try.ntmps86
  go_wp2_with fail
  refine (Len_9 w).mono ?_
  rintro e w' ⟨rfl, rfl⟩
  go_wp2
  go_ret
  exact ⟨rfl, rfl⟩
set_option maxRecDepth 100000 in
theorem nextPower_10 (w : World) : Calls Try.prog 86 #[.int .i64 10] w fun e w' => e = .returned (.int .u64 16) ∧ w = w' := by
  go_enter Try.func86, Try.ntmps86
  go_wp2_with fail
  refine (Len_10 w).mono ?_
  rintro e w' ⟨rfl, rfl⟩
  go_wp2
  go_ret
  exact ⟨rfl, rfl⟩
set_option maxRecDepth 100000 in
theorem nextPower_11 (w : World) : Calls Try.prog 86 #[.int .i64 11] w fun e w' => e = .returned (.int .u64 16) ∧ w = w' := by
  go_enter Try.func86, Try.ntmps86
  go_wp2_with fail
  refine (Len_11 w).mono ?_
  rintro e w' ⟨rfl, rfl⟩
  go_wp2
  go_ret
  exact ⟨rfl, rfl⟩
set_option maxRecDepth 100000 in
theorem nextPower_12 (w : World) : Calls Try.prog 86 #[.int .i64 12] w fun e w' => e = .returned (.int .u64 16) ∧ w = w' := by
  go_enter Try.func86, Try.ntmps86
  go_wp2_with fail
  refine (Len_12 w).mono ?_
  rintro e w' ⟨rfl, rfl⟩
  go_wp2
  go_ret
  exact ⟨rfl, rfl⟩
set_option maxRecDepth 100000 in
theorem nextPower_13 (w : World) : Calls Try.prog 86 #[.int .i64 13] w fun e w' => e = .returned (.int .u64 16) ∧ w = w' := by
  go_enter Try.func86, Try.ntmps86
  go_wp2_with fail
  refine (Len_13 w).mono ?_
  rintro e w' ⟨rfl, rfl⟩
  go_wp2
  go_ret
  exact ⟨rfl, rfl⟩
set_option maxRecDepth 100000 in
theorem nextPower_14 (w : World) : Calls Try.prog 86 #[.int .i64 14] w fun e w' => e = .returned (.int .u64 16) ∧ w = w' := by
  go_enter Try.func86, Try.ntmps86
  go_wp2_with fail
  refine (Len_14 w).mono ?_
  rintro e w' ⟨rfl, rfl⟩
  go_wp2
  go_ret
  exact ⟨rfl, rfl⟩
set_option maxRecDepth 100000 in
theorem nextPower_15 (w : World) : Calls Try.prog 86 #[.int .i64 15] w fun e w' => e = .returned (.int .u64 16) ∧ w = w' := by
  go_enter Try.func86, Try.ntmps86
  go_wp2_with fail
  refine (Len_15 w).mono ?_
  rintro e w' ⟨rfl, rfl⟩
  go_wp2
  go_ret
  exact ⟨rfl, rfl⟩
set_option maxRecDepth 100000 in
theorem nextPower_16 (w : World) : Calls Try.prog 86 #[.int .i64 16] w fun e w' => e = .returned (.int .u64 32) ∧ w = w' := by
  go_enter Try.func86, Try.ntmps86
  go_wp2_with fail
  refine (Len_16 w).mono ?_
  rintro e w' ⟨rfl, rfl⟩
  go_wp2
  go_ret
  exact ⟨rfl, rfl⟩
set_option maxRecDepth 100000 in
theorem nextPower_17 (w : World) : Calls Try.prog 86 #[.int .i64 17] w fun e w' => e = .returned (.int .u64 32) ∧ w = w' := by
  go_enter Try.func86, Try.ntmps86
  go_wp2_with fail
  refine (Len_17 w).mono ?_
  rintro e w' ⟨rfl, rfl⟩
  go_wp2
  go_ret
  exact ⟨rfl, rfl⟩
set_option maxRecDepth 100000 in
theorem nextPower_18 (w : World) : Calls Try.prog 86 #[.int .i64 18] w fun e w' => e = .returned (.int .u64 32) ∧ w = w' := by
  go_enter Try.func86, Try.ntmps86
  go_wp2_with fail
  refine (Len_18 w).mono ?_
  rintro e w' ⟨rfl, rfl⟩
  go_wp2
  go_ret
  exact ⟨rfl, rfl⟩
set_option maxRecDepth 100000 in
theorem nextPower_19 (w : World) : Calls Try.prog 86 #[.int .i64 19] w fun e w' => e = .returned (.int .u64 32) ∧ w = w' := by
  go_enter Try.func86, Try.ntmps86
  go_wp2_with fail
  refine (Len_19 w).mono ?_
  rintro e w' ⟨rfl, rfl⟩
  go_wp2
  go_ret
  exact ⟨rfl, rfl⟩
theorem Len_any (w : World) (k : Nat) (h1 : 1 ≤ k) (h19 : k < 20) : ∃ m : Nat, m ≤ 5 ∧ Calls Try.prog 56 #[.int .u64 k] w fun e w' => e = .returned (.int .i64 m) ∧ w = w' := by
  rcases (show k = 1 ∨ k = 2 ∨ k = 3 ∨ k = 4 ∨ k = 5 ∨ k = 6 ∨ k = 7 ∨ k = 8 ∨ k = 9 ∨ k = 10 ∨ k = 11 ∨ k = 12 ∨ k = 13 ∨ k = 14 ∨ k = 15 ∨ k = 16 ∨ k = 17 ∨ k = 18 ∨ k = 19 by omega) with h | h | h | h | h | h | h | h | h | h | h | h | h | h | h | h | h | h | h <;> subst h
  · exact ⟨1, by omega, Len_1 w⟩
  · exact ⟨2, by omega, Len_2 w⟩
  · exact ⟨2, by omega, Len_3 w⟩
  · exact ⟨3, by omega, Len_4 w⟩
  · exact ⟨3, by omega, Len_5 w⟩
  · exact ⟨3, by omega, Len_6 w⟩
  · exact ⟨3, by omega, Len_7 w⟩
  · exact ⟨4, by omega, Len_8 w⟩
  · exact ⟨4, by omega, Len_9 w⟩
  · exact ⟨4, by omega, Len_10 w⟩
  · exact ⟨4, by omega, Len_11 w⟩
  · exact ⟨4, by omega, Len_12 w⟩
  · exact ⟨4, by omega, Len_13 w⟩
  · exact ⟨4, by omega, Len_14 w⟩
  · exact ⟨4, by omega, Len_15 w⟩
  · exact ⟨5, by omega, Len_16 w⟩
  · exact ⟨5, by omega, Len_17 w⟩
  · exact ⟨5, by omega, Len_18 w⟩
  · exact ⟨5, by omega, Len_19 w⟩
theorem nextPower_any (w : World) (k : Nat) (h8 : 8 ≤ k) (h19 : k < 20) : ∃ m : Nat, 16 ≤ m ∧ m ≤ 2 * k ∧ m ≤ 32 ∧ Calls Try.prog 86 #[.int .i64 k] w fun e w' => e = .returned (.int .u64 m) ∧ w = w' := by
  rcases (show k = 8 ∨ k = 9 ∨ k = 10 ∨ k = 11 ∨ k = 12 ∨ k = 13 ∨ k = 14 ∨ k = 15 ∨ k = 16 ∨ k = 17 ∨ k = 18 ∨ k = 19 by omega) with h | h | h | h | h | h | h | h | h | h | h | h <;> subst h
  · exact ⟨16, by omega, by omega, by omega, nextPower_8 w⟩
  · exact ⟨16, by omega, by omega, by omega, nextPower_9 w⟩
  · exact ⟨16, by omega, by omega, by omega, nextPower_10 w⟩
  · exact ⟨16, by omega, by omega, by omega, nextPower_11 w⟩
  · exact ⟨16, by omega, by omega, by omega, nextPower_12 w⟩
  · exact ⟨16, by omega, by omega, by omega, nextPower_13 w⟩
  · exact ⟨16, by omega, by omega, by omega, nextPower_14 w⟩
  · exact ⟨16, by omega, by omega, by omega, nextPower_15 w⟩
  · exact ⟨32, by omega, by omega, by omega, nextPower_16 w⟩
  · exact ⟨32, by omega, by omega, by omega, nextPower_17 w⟩
  · exact ⟨32, by omega, by omega, by omega, nextPower_18 w⟩
  · exact ⟨32, by omega, by omega, by omega, nextPower_19 w⟩
theorem setCell_twice (w : World) (b o : Nat) (v v' : Value) : (w.setCell ⟨b, o, none⟩ v).setCell ⟨b, o, none⟩ v' = w.setCell ⟨b, o, none⟩ v' := by
  unfold World.setCell
  congr 1
  apply Array.ext_getElem?
  intro i
  simp only [Array.getElem?_modify]
  by_cases h : b = i
  · subst h
    simp only [if_true]
    rcases w.heap[b]? with _ | ob
    · rfl
    · cases ob <;> simp
  · simp [h]
set_option maxRecDepth 100000 in
set_option maxHeartbeats 4000000 in
theorem Next_calls (w : World) (c X : Nat) (hX : X < 18446744073709551616) (hc : w.cell? ⟨c, 0, none⟩ = some (.int .u64 X)) (hf : w.frozen? ⟨c, 0, none⟩ = false) :
    Calls Try.prog 87 #[.pointer (some ⟨c, 0, none⟩)] w fun e w' => ∃ Y : Nat, Y < 18446744073709551616 ∧ e = .returned (.int .u64 Y) ∧ w' = (w.setCell ⟨c, 0, none⟩ (.int .u64 Y)).drew.drew.drew := by
  obtain ⟨A, hA⟩ : ∃ A : Nat, A = X ^^^ (X * 8192 % 18446744073709551616) := ⟨_, rfl⟩
  obtain ⟨B, hB⟩ : ∃ B : Nat, B = A ^^^ (A / 128) := ⟨_, rfl⟩
  obtain ⟨C, hC⟩ : ∃ C : Nat, C = B ^^^ (B * 131072 % 18446744073709551616) := ⟨_, rfl⟩
  have lA : A < 18446744073709551616 := by rw [hA]; exact Nat.xor_lt_two_pow (n := 64) (by omega) (by omega)
  have lB : B < 18446744073709551616 := by rw [hB]; exact Nat.xor_lt_two_pow (n := 64) (by omega) (by omega)
  have lC : C < 18446744073709551616 := by rw [hC]; exact Nat.xor_lt_two_pow (n := 64) (by omega) (by omega)
  have e1 : bits .xor .u64 (X : Int) (IntKind.u64.wrap ((X : Int) * 8192)) = (A : Int) := by
    rw [IntKind.wrap_u64, show ((X : Int) * 8192 % 18446744073709551616) = ((X * 8192 % 18446744073709551616 : Nat) : Int) by omega, bits_xor_u64_nat _ _ hX (by omega), hA]
  have e2 : bits .xor .u64 (A : Int) ((A : Int) / 128) = (B : Int) := by
    rw [show ((A : Int) / 128) = ((A / 128 : Nat) : Int) by omega, bits_xor_u64_nat _ _ lA (by omega), hB]
  have e3 : bits .xor .u64 (B : Int) (IntKind.u64.wrap ((B : Int) * 131072)) = (C : Int) := by
    rw [IntKind.wrap_u64, show ((B : Int) * 131072 % 18446744073709551616) = ((B * 131072 % 18446744073709551616 : Nat) : Int) by omega, bits_xor_u64_nat _ _ lB (by omega), hC]
  have HL := Lib.hid lC
  clear hA hB hC lC
  have hss : ∀ v v', (w.setCell ⟨c, 0, none⟩ v).setCell ⟨c, 0, none⟩ v' = w.setCell ⟨c, 0, none⟩ v' := setCell_twice w c 0
  go_enter Try.func87, Try.ntmps87
  go_wp2
  go_region
  all_goals go_wp2
  all_goals go_region
  all_goals go_wp2
  all_goals go_region
  all_goals go_wp2
  all_goals go_ret
  all_goals exact ⟨C, HL.out, rfl, rfl⟩
end Go.Proofs.Ytenneobgjalfhaa.So
