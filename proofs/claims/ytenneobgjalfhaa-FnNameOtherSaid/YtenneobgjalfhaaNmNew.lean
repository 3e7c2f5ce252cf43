/- The makers of the named algorithms, and what they tell of themselves; no condition. -/
import Derived.Test.YtenneobgjalfhaaK
import Derived.Test.YtenneobgjalfhaaProg
import Derived.Great.Walk
import Derived.RegionTactic
import Derived.StillTailTactics
set_option linter.unusedVariables false
set_option linter.unusedSimpArgs false
namespace Go.Proofs.Ytenneobgjalfhaa.Nm
open Go.RowKit Go.Proofs.Ytenneobgjalfhaa.K
abbrev two (s : ByteArray) (d : Bool) : Value := .agg #[.string s, .bool d]
abbrev three (s : ByteArray) (d y : Bool) : Value := .agg #[.string s, .bool d, .bool y]
def Gives (v : Value) (w : World) (e : Ending) (w' : World) : Prop := e = .returned v ∧ Below w.heap.size w w'
set_option maxRecDepth 100000 in
theorem NewCompressionAlgorithm_calls (w : World) (s : ByteArray) : Calls Try.prog 52 #[.string s] w (Gives (two s false) w) := by
  go_enter Try.func52, Try.ntmps52
  go_wp2
  exact bodyPost_ret (results_cell_row rfl _ _ w.heap.size 43 #[.string s, .bool false] (0, 0) _ rfl (heap_alloc_new w _) Try.underlying43 rfl (by kernel_rfl)) rfl ⟨rfl, below_alloc' (Below.refl w.heap.size w) _⟩
set_option maxRecDepth 100000 in
theorem NewEllipticCurveAlgorithm_calls (w : World) (s : ByteArray) : Calls Try.prog 58 #[.string s] w (Gives (two s false) w) := by
  go_enter Try.func58, Try.ntmps58
  go_wp2
  exact bodyPost_ret (results_cell_row rfl _ _ w.heap.size 46 #[.string s, .bool false] (0, 0) _ rfl (heap_alloc_new w _) Try.underlying46 rfl (by kernel_rfl)) rfl ⟨rfl, below_alloc' (Below.refl w.heap.size w) _⟩
set_option maxRecDepth 100000 in
theorem NewKeyType_calls (w : World) (s : ByteArray) : Calls Try.prog 59 #[.string s] w (Gives (two s false) w) := by
  go_enter Try.func59, Try.ntmps59
  go_wp2
  exact bodyPost_ret (results_cell_row rfl _ _ w.heap.size 49 #[.string s, .bool false] (0, 0) _ rfl (heap_alloc_new w _) Try.underlying49 rfl (by kernel_rfl)) rfl ⟨rfl, below_alloc' (Below.refl w.heap.size w) _⟩
set_option maxRecDepth 100000 in
theorem NewContentEncryptionAlgorithm_calls (w : World) (s : ByteArray) : Calls Try.prog 82 #[.string s] w (Gives (two s false) w) := by
  go_enter Try.func82, Try.ntmps82
  go_wp2
  exact bodyPost_ret (results_cell_row rfl _ _ w.heap.size 40 #[.string s, .bool false] (0, 0) _ rfl (heap_alloc_new w _) Try.underlying40 rfl (by kernel_rfl)) rfl ⟨rfl, below_alloc' (Below.refl w.heap.size w) _⟩
set_option maxRecDepth 100000 in
theorem NewKeyEncryptionAlgorithm_calls (w : World) (s : ByteArray) : Calls Try.prog 83 #[.string s] w (Gives (three s false false) w) := by
  go_enter Try.func83, Try.ntmps83
  go_wp2
  exact bodyPost_ret (results_cell_row rfl _ _ w.heap.size 36 #[.string s, .bool false, .bool false] (0, 0) _ rfl (heap_alloc_new w _) Try.underlying36 rfl (by kernel_rfl)) rfl ⟨rfl, below_alloc' (Below.refl w.heap.size w) _⟩
set_option maxRecDepth 100000 in
theorem NewSignatureAlgorithm_calls (w : World) (s : ByteArray) : Calls Try.prog 84 #[.string s] w (Gives (three s false false) w) := by
  go_enter Try.func84, Try.ntmps84
  go_wp2
  exact bodyPost_ret (results_cell_row rfl _ _ w.heap.size 32 #[.string s, .bool false, .bool false] (0, 0) _ rfl (heap_alloc_new w _) Try.underlying32 rfl (by kernel_rfl)) rfl ⟨rfl, below_alloc' (Below.refl w.heap.size w) _⟩
set_option maxRecDepth 100000 in
theorem CompressionAlgorithm_String_calls (w : World) (s : ByteArray) (d y : Bool) : Calls Try.prog 23 #[.agg #[.string s, .bool d]] w (Gives (.string s) w) := by
  go_enter Try.func23, Try.ntmps23
  go_wp2
  go_ret
  exact ⟨rfl, below_alloc' (Below.refl w.heap.size w) _⟩
set_option maxRecDepth 100000 in
theorem CompressionAlgorithm_IsDeprecated_calls (w : World) (s : ByteArray) (d y : Bool) : Calls Try.prog 24 #[.agg #[.string s, .bool d]] w (Gives (.bool d) w) := by
  go_enter Try.func24, Try.ntmps24
  go_wp2
  go_ret
  exact ⟨rfl, below_alloc' (Below.refl w.heap.size w) _⟩
set_option maxRecDepth 100000 in
theorem EllipticCurveAlgorithm_String_calls (w : World) (s : ByteArray) (d y : Bool) : Calls Try.prog 26 #[.agg #[.string s, .bool d]] w (Gives (.string s) w) := by
  go_enter Try.func26, Try.ntmps26
  go_wp2
  go_ret
  exact ⟨rfl, below_alloc' (Below.refl w.heap.size w) _⟩
set_option maxRecDepth 100000 in
theorem EllipticCurveAlgorithm_IsDeprecated_calls (w : World) (s : ByteArray) (d y : Bool) : Calls Try.prog 27 #[.agg #[.string s, .bool d]] w (Gives (.bool d) w) := by
  go_enter Try.func27, Try.ntmps27
  go_wp2
  go_ret
  exact ⟨rfl, below_alloc' (Below.refl w.heap.size w) _⟩
set_option maxRecDepth 100000 in
theorem KeyType_String_calls (w : World) (s : ByteArray) (d y : Bool) : Calls Try.prog 29 #[.agg #[.string s, .bool d]] w (Gives (.string s) w) := by
  go_enter Try.func29, Try.ntmps29
  go_wp2
  go_ret
  exact ⟨rfl, below_alloc' (Below.refl w.heap.size w) _⟩
set_option maxRecDepth 100000 in
theorem KeyType_IsDeprecated_calls (w : World) (s : ByteArray) (d y : Bool) : Calls Try.prog 30 #[.agg #[.string s, .bool d]] w (Gives (.bool d) w) := by
  go_enter Try.func30, Try.ntmps30
  go_wp2
  go_ret
  exact ⟨rfl, below_alloc' (Below.refl w.heap.size w) _⟩
set_option maxRecDepth 100000 in
theorem ContentEncryptionAlgorithm_String_calls (w : World) (s : ByteArray) (d y : Bool) : Calls Try.prog 20 #[.agg #[.string s, .bool d]] w (Gives (.string s) w) := by
  go_enter Try.func20, Try.ntmps20
  go_wp2
  go_ret
  exact ⟨rfl, below_alloc' (Below.refl w.heap.size w) _⟩
set_option maxRecDepth 100000 in
theorem ContentEncryptionAlgorithm_IsDeprecated_calls (w : World) (s : ByteArray) (d y : Bool) : Calls Try.prog 21 #[.agg #[.string s, .bool d]] w (Gives (.bool d) w) := by
  go_enter Try.func21, Try.ntmps21
  go_wp2
  go_ret
  exact ⟨rfl, below_alloc' (Below.refl w.heap.size w) _⟩
set_option maxRecDepth 100000 in
theorem KeyEncryptionAlgorithm_String_calls (w : World) (s : ByteArray) (d y : Bool) : Calls Try.prog 16 #[.agg #[.string s, .bool d, .bool y]] w (Gives (.string s) w) := by
  go_enter Try.func16, Try.ntmps16
  go_wp2
  go_ret
  exact ⟨rfl, below_alloc' (Below.refl w.heap.size w) _⟩
set_option maxRecDepth 100000 in
theorem KeyEncryptionAlgorithm_IsDeprecated_calls (w : World) (s : ByteArray) (d y : Bool) : Calls Try.prog 17 #[.agg #[.string s, .bool d, .bool y]] w (Gives (.bool d) w) := by
  go_enter Try.func17, Try.ntmps17
  go_wp2
  go_ret
  exact ⟨rfl, below_alloc' (Below.refl w.heap.size w) _⟩
set_option maxRecDepth 100000 in
theorem KeyEncryptionAlgorithm_IsSymmetric_calls (w : World) (s : ByteArray) (d y : Bool) : Calls Try.prog 18 #[.agg #[.string s, .bool d, .bool y]] w (Gives (.bool y) w) := by
  go_enter Try.func18, Try.ntmps18
  go_wp2
  go_ret
  exact ⟨rfl, below_alloc' (Below.refl w.heap.size w) _⟩
set_option maxRecDepth 100000 in
theorem SignatureAlgorithm_String_calls (w : World) (s : ByteArray) (d y : Bool) : Calls Try.prog 12 #[.agg #[.string s, .bool d, .bool y]] w (Gives (.string s) w) := by
  go_enter Try.func12, Try.ntmps12
  go_wp2
  go_ret
  exact ⟨rfl, below_alloc' (Below.refl w.heap.size w) _⟩
set_option maxRecDepth 100000 in
theorem SignatureAlgorithm_IsDeprecated_calls (w : World) (s : ByteArray) (d y : Bool) : Calls Try.prog 13 #[.agg #[.string s, .bool d, .bool y]] w (Gives (.bool d) w) := by
  go_enter Try.func13, Try.ntmps13
  go_wp2
  go_ret
  exact ⟨rfl, below_alloc' (Below.refl w.heap.size w) _⟩
set_option maxRecDepth 100000 in
theorem SignatureAlgorithm_IsSymmetric_calls (w : World) (s : ByteArray) (d y : Bool) : Calls Try.prog 14 #[.agg #[.string s, .bool d, .bool y]] w (Gives (.bool y) w) := by
  go_enter Try.func14, Try.ntmps14
  go_wp2
  go_ret
  exact ⟨rfl, below_alloc' (Below.refl w.heap.size w) _⟩
end Go.Proofs.Ytenneobgjalfhaa.Nm
