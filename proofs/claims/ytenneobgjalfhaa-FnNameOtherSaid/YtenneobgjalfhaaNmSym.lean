/- spec.NameSymmetric at the names of the standard, of the kinds 0 and 1; no condition. Printed by gen_sym.py. -/
import Derived.Test.YtenneobgjalfhaaNmCont
set_option linter.unusedVariables false
set_option linter.unusedSimpArgs false
namespace Go.Proofs.Ytenneobgjalfhaa.So
open Go.RowKit Go.Proofs.Ytenneobgjalfhaa.K Go.Proofs.Ytenneobgjalfhaa.Nm
set_option maxRecDepth 100000 in
theorem Sym_0_0 (w : World) : Calls Try.prog 10 #[.int .i64 0, .string ⟨#[72, 83, 50, 53, 54]⟩] w fun e w' => e = .returned (.bool true) ∧ w = w' := by
  go_enter Try.func10, Try.ntmps10
  go_wp2
  go_ret
  exact ⟨rfl, rfl⟩
set_option maxRecDepth 100000 in
theorem Sym_0_1 (w : World) : Calls Try.prog 10 #[.int .i64 0, .string ⟨#[72, 83, 51, 56, 52]⟩] w fun e w' => e = .returned (.bool true) ∧ w = w' := by
  go_enter Try.func10, Try.ntmps10
  go_wp2
  go_ret
  exact ⟨rfl, rfl⟩
set_option maxRecDepth 100000 in
theorem Sym_0_2 (w : World) : Calls Try.prog 10 #[.int .i64 0, .string ⟨#[72, 83, 53, 49, 50]⟩] w fun e w' => e = .returned (.bool true) ∧ w = w' := by
  go_enter Try.func10, Try.ntmps10
  go_wp2
  go_ret
  exact ⟨rfl, rfl⟩
set_option maxRecDepth 100000 in
theorem Sym_0_3 (w : World) : Calls Try.prog 10 #[.int .i64 0, .string ⟨#[82, 83, 50, 53, 54]⟩] w fun e w' => e = .returned (.bool false) ∧ w = w' := by
  go_enter Try.func10, Try.ntmps10
  go_wp2
  go_ret
  exact ⟨rfl, rfl⟩
set_option maxRecDepth 100000 in
theorem Sym_0_4 (w : World) : Calls Try.prog 10 #[.int .i64 0, .string ⟨#[82, 83, 51, 56, 52]⟩] w fun e w' => e = .returned (.bool false) ∧ w = w' := by
  go_enter Try.func10, Try.ntmps10
  go_wp2
  go_ret
  exact ⟨rfl, rfl⟩
set_option maxRecDepth 100000 in
theorem Sym_0_5 (w : World) : Calls Try.prog 10 #[.int .i64 0, .string ⟨#[82, 83, 53, 49, 50]⟩] w fun e w' => e = .returned (.bool false) ∧ w = w' := by
  go_enter Try.func10, Try.ntmps10
  go_wp2
  go_ret
  exact ⟨rfl, rfl⟩
set_option maxRecDepth 100000 in
theorem Sym_0_6 (w : World) : Calls Try.prog 10 #[.int .i64 0, .string ⟨#[69, 83, 50, 53, 54]⟩] w fun e w' => e = .returned (.bool false) ∧ w = w' := by
  go_enter Try.func10, Try.ntmps10
  go_wp2
  go_ret
  exact ⟨rfl, rfl⟩
set_option maxRecDepth 100000 in
theorem Sym_0_7 (w : World) : Calls Try.prog 10 #[.int .i64 0, .string ⟨#[69, 83, 51, 56, 52]⟩] w fun e w' => e = .returned (.bool false) ∧ w = w' := by
  go_enter Try.func10, Try.ntmps10
  go_wp2
  go_ret
  exact ⟨rfl, rfl⟩
set_option maxRecDepth 100000 in
theorem Sym_0_8 (w : World) : Calls Try.prog 10 #[.int .i64 0, .string ⟨#[69, 83, 53, 49, 50]⟩] w fun e w' => e = .returned (.bool false) ∧ w = w' := by
  go_enter Try.func10, Try.ntmps10
  go_wp2
  go_ret
  exact ⟨rfl, rfl⟩
set_option maxRecDepth 100000 in
theorem Sym_0_9 (w : World) : Calls Try.prog 10 #[.int .i64 0, .string ⟨#[80, 83, 50, 53, 54]⟩] w fun e w' => e = .returned (.bool false) ∧ w = w' := by
  go_enter Try.func10, Try.ntmps10
  go_wp2
  go_ret
  exact ⟨rfl, rfl⟩
set_option maxRecDepth 100000 in
theorem Sym_0_10 (w : World) : Calls Try.prog 10 #[.int .i64 0, .string ⟨#[80, 83, 51, 56, 52]⟩] w fun e w' => e = .returned (.bool false) ∧ w = w' := by
  go_enter Try.func10, Try.ntmps10
  go_wp2
  go_ret
  exact ⟨rfl, rfl⟩
set_option maxRecDepth 100000 in
theorem Sym_0_11 (w : World) : Calls Try.prog 10 #[.int .i64 0, .string ⟨#[80, 83, 53, 49, 50]⟩] w fun e w' => e = .returned (.bool false) ∧ w = w' := by
  go_enter Try.func10, Try.ntmps10
  go_wp2
  go_ret
  exact ⟨rfl, rfl⟩
set_option maxRecDepth 100000 in
theorem Sym_0_12 (w : World) : Calls Try.prog 10 #[.int .i64 0, .string ⟨#[69, 100, 68, 83, 65]⟩] w fun e w' => e = .returned (.bool false) ∧ w = w' := by
  go_enter Try.func10, Try.ntmps10
  go_wp2
  go_ret
  exact ⟨rfl, rfl⟩
set_option maxRecDepth 100000 in
theorem Sym_0_13 (w : World) : Calls Try.prog 10 #[.int .i64 0, .string ⟨#[110, 111, 110, 101]⟩] w fun e w' => e = .returned (.bool false) ∧ w = w' := by
  go_enter Try.func10, Try.ntmps10
  go_wp2
  go_ret
  exact ⟨rfl, rfl⟩
set_option maxRecDepth 100000 in
theorem Sym_1_0 (w : World) : Calls Try.prog 10 #[.int .i64 1, .string ⟨#[82, 83, 65, 49, 95, 53]⟩] w fun e w' => e = .returned (.bool false) ∧ w = w' := by
  have h3 : ((⟨#[82, 83, 65, 49, 95, 53]⟩ : ByteArray).extract 0 3).toList = [82, 83, 65] := by rw [ByteArray.toList_eq]; rfl
  have h4 : ((⟨#[82, 83, 65, 49, 95, 53]⟩ : ByteArray).extract 0 4).toList = [82, 83, 65, 49] := by rw [ByteArray.toList_eq]; rfl
  go_enter Try.func10, Try.ntmps10
  go_wp2
  go_ret
  exact ⟨rfl, rfl⟩
set_option maxRecDepth 100000 in
theorem Sym_1_1 (w : World) : Calls Try.prog 10 #[.int .i64 1, .string ⟨#[82, 83, 65, 45, 79, 65, 69, 80]⟩] w fun e w' => e = .returned (.bool false) ∧ w = w' := by
  have h3 : ((⟨#[82, 83, 65, 45, 79, 65, 69, 80]⟩ : ByteArray).extract 0 3).toList = [82, 83, 65] := by rw [ByteArray.toList_eq]; rfl
  have h4 : ((⟨#[82, 83, 65, 45, 79, 65, 69, 80]⟩ : ByteArray).extract 0 4).toList = [82, 83, 65, 45] := by rw [ByteArray.toList_eq]; rfl
  go_enter Try.func10, Try.ntmps10
  go_wp2
  go_ret
  exact ⟨rfl, rfl⟩
set_option maxRecDepth 100000 in
theorem Sym_1_2 (w : World) : Calls Try.prog 10 #[.int .i64 1, .string ⟨#[82, 83, 65, 45, 79, 65, 69, 80, 45, 50, 53, 54]⟩] w fun e w' => e = .returned (.bool false) ∧ w = w' := by
  have h3 : ((⟨#[82, 83, 65, 45, 79, 65, 69, 80, 45, 50, 53, 54]⟩ : ByteArray).extract 0 3).toList = [82, 83, 65] := by rw [ByteArray.toList_eq]; rfl
  have h4 : ((⟨#[82, 83, 65, 45, 79, 65, 69, 80, 45, 50, 53, 54]⟩ : ByteArray).extract 0 4).toList = [82, 83, 65, 45] := by rw [ByteArray.toList_eq]; rfl
  go_enter Try.func10, Try.ntmps10
  go_wp2
  go_ret
  exact ⟨rfl, rfl⟩
set_option maxRecDepth 100000 in
theorem Sym_1_3 (w : World) : Calls Try.prog 10 #[.int .i64 1, .string ⟨#[65, 49, 50, 56, 75, 87]⟩] w fun e w' => e = .returned (.bool true) ∧ w = w' := by
  have h3 : ((⟨#[65, 49, 50, 56, 75, 87]⟩ : ByteArray).extract 0 3).toList = [65, 49, 50] := by rw [ByteArray.toList_eq]; rfl
  have h4 : ((⟨#[65, 49, 50, 56, 75, 87]⟩ : ByteArray).extract 0 4).toList = [65, 49, 50, 56] := by rw [ByteArray.toList_eq]; rfl
  go_enter Try.func10, Try.ntmps10
  go_wp2
  go_ret
  exact ⟨rfl, rfl⟩
set_option maxRecDepth 100000 in
theorem Sym_1_4 (w : World) : Calls Try.prog 10 #[.int .i64 1, .string ⟨#[65, 49, 57, 50, 75, 87]⟩] w fun e w' => e = .returned (.bool true) ∧ w = w' := by
  have h3 : ((⟨#[65, 49, 57, 50, 75, 87]⟩ : ByteArray).extract 0 3).toList = [65, 49, 57] := by rw [ByteArray.toList_eq]; rfl
  have h4 : ((⟨#[65, 49, 57, 50, 75, 87]⟩ : ByteArray).extract 0 4).toList = [65, 49, 57, 50] := by rw [ByteArray.toList_eq]; rfl
  go_enter Try.func10, Try.ntmps10
  go_wp2
  go_ret
  exact ⟨rfl, rfl⟩
set_option maxRecDepth 100000 in
theorem Sym_1_5 (w : World) : Calls Try.prog 10 #[.int .i64 1, .string ⟨#[65, 50, 53, 54, 75, 87]⟩] w fun e w' => e = .returned (.bool true) ∧ w = w' := by
  have h3 : ((⟨#[65, 50, 53, 54, 75, 87]⟩ : ByteArray).extract 0 3).toList = [65, 50, 53] := by rw [ByteArray.toList_eq]; rfl
  have h4 : ((⟨#[65, 50, 53, 54, 75, 87]⟩ : ByteArray).extract 0 4).toList = [65, 50, 53, 54] := by rw [ByteArray.toList_eq]; rfl
  go_enter Try.func10, Try.ntmps10
  go_wp2
  go_ret
  exact ⟨rfl, rfl⟩
set_option maxRecDepth 100000 in
theorem Sym_1_6 (w : World) : Calls Try.prog 10 #[.int .i64 1, .string ⟨#[100, 105, 114]⟩] w fun e w' => e = .returned (.bool true) ∧ w = w' := by
  have h3 : ((⟨#[100, 105, 114]⟩ : ByteArray).extract 0 3).toList = [100, 105, 114] := by rw [ByteArray.toList_eq]; rfl
  go_enter Try.func10, Try.ntmps10
  go_wp2
  go_ret
  exact ⟨rfl, rfl⟩
set_option maxRecDepth 100000 in
theorem Sym_1_7 (w : World) : Calls Try.prog 10 #[.int .i64 1, .string ⟨#[69, 67, 68, 72, 45, 69, 83]⟩] w fun e w' => e = .returned (.bool false) ∧ w = w' := by
  have h3 : ((⟨#[69, 67, 68, 72, 45, 69, 83]⟩ : ByteArray).extract 0 3).toList = [69, 67, 68] := by rw [ByteArray.toList_eq]; rfl
  have h4 : ((⟨#[69, 67, 68, 72, 45, 69, 83]⟩ : ByteArray).extract 0 4).toList = [69, 67, 68, 72] := by rw [ByteArray.toList_eq]; rfl
  go_enter Try.func10, Try.ntmps10
  go_wp2
  go_ret
  exact ⟨rfl, rfl⟩
set_option maxRecDepth 100000 in
theorem Sym_1_8 (w : World) : Calls Try.prog 10 #[.int .i64 1, .string ⟨#[69, 67, 68, 72, 45, 69, 83, 43, 65, 49, 50, 56, 75, 87]⟩] w fun e w' => e = .returned (.bool false) ∧ w = w' := by
  have h3 : ((⟨#[69, 67, 68, 72, 45, 69, 83, 43, 65, 49, 50, 56, 75, 87]⟩ : ByteArray).extract 0 3).toList = [69, 67, 68] := by rw [ByteArray.toList_eq]; rfl
  have h4 : ((⟨#[69, 67, 68, 72, 45, 69, 83, 43, 65, 49, 50, 56, 75, 87]⟩ : ByteArray).extract 0 4).toList = [69, 67, 68, 72] := by rw [ByteArray.toList_eq]; rfl
  go_enter Try.func10, Try.ntmps10
  go_wp2
  go_ret
  exact ⟨rfl, rfl⟩
set_option maxRecDepth 100000 in
theorem Sym_1_9 (w : World) : Calls Try.prog 10 #[.int .i64 1, .string ⟨#[69, 67, 68, 72, 45, 69, 83, 43, 65, 49, 57, 50, 75, 87]⟩] w fun e w' => e = .returned (.bool false) ∧ w = w' := by
  have h3 : ((⟨#[69, 67, 68, 72, 45, 69, 83, 43, 65, 49, 57, 50, 75, 87]⟩ : ByteArray).extract 0 3).toList = [69, 67, 68] := by rw [ByteArray.toList_eq]; rfl
  have h4 : ((⟨#[69, 67, 68, 72, 45, 69, 83, 43, 65, 49, 57, 50, 75, 87]⟩ : ByteArray).extract 0 4).toList = [69, 67, 68, 72] := by rw [ByteArray.toList_eq]; rfl
  go_enter Try.func10, Try.ntmps10
  go_wp2
  go_ret
  exact ⟨rfl, rfl⟩
set_option maxRecDepth 100000 in
theorem Sym_1_10 (w : World) : Calls Try.prog 10 #[.int .i64 1, .string ⟨#[69, 67, 68, 72, 45, 69, 83, 43, 65, 50, 53, 54, 75, 87]⟩] w fun e w' => e = .returned (.bool false) ∧ w = w' := by
  have h3 : ((⟨#[69, 67, 68, 72, 45, 69, 83, 43, 65, 50, 53, 54, 75, 87]⟩ : ByteArray).extract 0 3).toList = [69, 67, 68] := by rw [ByteArray.toList_eq]; rfl
  have h4 : ((⟨#[69, 67, 68, 72, 45, 69, 83, 43, 65, 50, 53, 54, 75, 87]⟩ : ByteArray).extract 0 4).toList = [69, 67, 68, 72] := by rw [ByteArray.toList_eq]; rfl
  go_enter Try.func10, Try.ntmps10
  go_wp2
  go_ret
  exact ⟨rfl, rfl⟩
set_option maxRecDepth 100000 in
theorem Sym_1_11 (w : World) : Calls Try.prog 10 #[.int .i64 1, .string ⟨#[65, 49, 50, 56, 71, 67, 77, 75, 87]⟩] w fun e w' => e = .returned (.bool true) ∧ w = w' := by
  have h3 : ((⟨#[65, 49, 50, 56, 71, 67, 77, 75, 87]⟩ : ByteArray).extract 0 3).toList = [65, 49, 50] := by rw [ByteArray.toList_eq]; rfl
  have h4 : ((⟨#[65, 49, 50, 56, 71, 67, 77, 75, 87]⟩ : ByteArray).extract 0 4).toList = [65, 49, 50, 56] := by rw [ByteArray.toList_eq]; rfl
  go_enter Try.func10, Try.ntmps10
  go_wp2
  go_ret
  exact ⟨rfl, rfl⟩
set_option maxRecDepth 100000 in
theorem Sym_1_12 (w : World) : Calls Try.prog 10 #[.int .i64 1, .string ⟨#[65, 49, 57, 50, 71, 67, 77, 75, 87]⟩] w fun e w' => e = .returned (.bool true) ∧ w = w' := by
  have h3 : ((⟨#[65, 49, 57, 50, 71, 67, 77, 75, 87]⟩ : ByteArray).extract 0 3).toList = [65, 49, 57] := by rw [ByteArray.toList_eq]; rfl
  have h4 : ((⟨#[65, 49, 57, 50, 71, 67, 77, 75, 87]⟩ : ByteArray).extract 0 4).toList = [65, 49, 57, 50] := by rw [ByteArray.toList_eq]; rfl
  go_enter Try.func10, Try.ntmps10
  go_wp2
  go_ret
  exact ⟨rfl, rfl⟩
set_option maxRecDepth 100000 in
theorem Sym_1_13 (w : World) : Calls Try.prog 10 #[.int .i64 1, .string ⟨#[65, 50, 53, 54, 71, 67, 77, 75, 87]⟩] w fun e w' => e = .returned (.bool true) ∧ w = w' := by
  have h3 : ((⟨#[65, 50, 53, 54, 71, 67, 77, 75, 87]⟩ : ByteArray).extract 0 3).toList = [65, 50, 53] := by rw [ByteArray.toList_eq]; rfl
  have h4 : ((⟨#[65, 50, 53, 54, 71, 67, 77, 75, 87]⟩ : ByteArray).extract 0 4).toList = [65, 50, 53, 54] := by rw [ByteArray.toList_eq]; rfl
  go_enter Try.func10, Try.ntmps10
  go_wp2
  go_ret
  exact ⟨rfl, rfl⟩
set_option maxRecDepth 100000 in
theorem Sym_1_14 (w : World) : Calls Try.prog 10 #[.int .i64 1, .string ⟨#[80, 66, 69, 83, 50, 45, 72, 83, 50, 53, 54, 43, 65, 49, 50, 56, 75, 87]⟩] w fun e w' => e = .returned (.bool true) ∧ w = w' := by
  have h3 : ((⟨#[80, 66, 69, 83, 50, 45, 72, 83, 50, 53, 54, 43, 65, 49, 50, 56, 75, 87]⟩ : ByteArray).extract 0 3).toList = [80, 66, 69] := by rw [ByteArray.toList_eq]; rfl
  have h4 : ((⟨#[80, 66, 69, 83, 50, 45, 72, 83, 50, 53, 54, 43, 65, 49, 50, 56, 75, 87]⟩ : ByteArray).extract 0 4).toList = [80, 66, 69, 83] := by rw [ByteArray.toList_eq]; rfl
  go_enter Try.func10, Try.ntmps10
  go_wp2
  go_ret
  exact ⟨rfl, rfl⟩
set_option maxRecDepth 100000 in
theorem Sym_1_15 (w : World) : Calls Try.prog 10 #[.int .i64 1, .string ⟨#[80, 66, 69, 83, 50, 45, 72, 83, 51, 56, 52, 43, 65, 49, 57, 50, 75, 87]⟩] w fun e w' => e = .returned (.bool true) ∧ w = w' := by
  have h3 : ((⟨#[80, 66, 69, 83, 50, 45, 72, 83, 51, 56, 52, 43, 65, 49, 57, 50, 75, 87]⟩ : ByteArray).extract 0 3).toList = [80, 66, 69] := by rw [ByteArray.toList_eq]; rfl
  have h4 : ((⟨#[80, 66, 69, 83, 50, 45, 72, 83, 51, 56, 52, 43, 65, 49, 57, 50, 75, 87]⟩ : ByteArray).extract 0 4).toList = [80, 66, 69, 83] := by rw [ByteArray.toList_eq]; rfl
  go_enter Try.func10, Try.ntmps10
  go_wp2
  go_ret
  exact ⟨rfl, rfl⟩
set_option maxRecDepth 100000 in
theorem Sym_1_16 (w : World) : Calls Try.prog 10 #[.int .i64 1, .string ⟨#[80, 66, 69, 83, 50, 45, 72, 83, 53, 49, 50, 43, 65, 50, 53, 54, 75, 87]⟩] w fun e w' => e = .returned (.bool true) ∧ w = w' := by
  have h3 : ((⟨#[80, 66, 69, 83, 50, 45, 72, 83, 53, 49, 50, 43, 65, 50, 53, 54, 75, 87]⟩ : ByteArray).extract 0 3).toList = [80, 66, 69] := by rw [ByteArray.toList_eq]; rfl
  have h4 : ((⟨#[80, 66, 69, 83, 50, 45, 72, 83, 53, 49, 50, 43, 65, 50, 53, 54, 75, 87]⟩ : ByteArray).extract 0 4).toList = [80, 66, 69, 83] := by rw [ByteArray.toList_eq]; rfl
  go_enter Try.func10, Try.ntmps10
  go_wp2
  go_ret
  exact ⟨rfl, rfl⟩
end Go.Proofs.Ytenneobgjalfhaa.So
