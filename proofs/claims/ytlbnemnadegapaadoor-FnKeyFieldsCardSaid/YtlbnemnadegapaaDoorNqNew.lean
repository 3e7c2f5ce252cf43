/- The makers of the named algorithms, and what they tell of themselves; no condition. -/
import Derived.Test.YtlbnemnadegapaaDoorK
import Derived.Test.YtlbnemnadegapaaDoorProg
import Derived.Great.Walk
import Derived.RegionTactic
import Derived.StillTailTactics
set_option linter.unusedVariables false
set_option linter.unusedSimpArgs false
namespace Go.Proofs.YtlbnemnadegapaaDoor.Nq
open Go.RowKit Go.Proofs.YtlbnemnadegapaaDoor.K
abbrev two (s : ByteArray) (d : Bool) : Value := .agg #[.string s, .bool d]
abbrev three (s : ByteArray) (d y : Bool) : Value := .agg #[.string s, .bool d, .bool y]
def Gives (v : Value) (w : World) (e : Ending) (w' : World) : Prop := e = .returned v ∧ Below w.heap.size w w'
set_option maxRecDepth 100000 in
theorem NewKeyType_calls (w : World) (s : ByteArray) : Calls Tryd.prog 121 #[.string s] w (Gives (two s false) w) := by
  go_enter Tryd.func121, Tryd.ntmps121
  go_wp2
  exact bodyPost_ret (results_cell_row rfl _ _ w.heap.size 207 #[.string s, .bool false] (0, 0) _ rfl (heap_alloc_new w _) Tryd.underlying207 rfl (by kernel_rfl)) rfl ⟨rfl, below_alloc' (Below.refl w.heap.size w) _⟩
set_option maxRecDepth 100000 in
theorem NewContentEncryptionAlgorithm_calls (w : World) (s : ByteArray) : Calls Tryd.prog 80 #[.string s] w (Gives (two s false) w) := by
  go_enter Tryd.func80, Tryd.ntmps80
  go_wp2
  exact bodyPost_ret (results_cell_row rfl _ _ w.heap.size 159 #[.string s, .bool false] (0, 0) _ rfl (heap_alloc_new w _) Tryd.underlying159 rfl (by kernel_rfl)) rfl ⟨rfl, below_alloc' (Below.refl w.heap.size w) _⟩
set_option maxRecDepth 100000 in
theorem NewKeyEncryptionAlgorithm_calls (w : World) (s : ByteArray) : Calls Tryd.prog 81 #[.string s] w (Gives (three s false false) w) := by
  go_enter Tryd.func81, Tryd.ntmps81
  go_wp2
  exact bodyPost_ret (results_cell_row rfl _ _ w.heap.size 157 #[.string s, .bool false, .bool false] (0, 0) _ rfl (heap_alloc_new w _) Tryd.underlying157 rfl (by kernel_rfl)) rfl ⟨rfl, below_alloc' (Below.refl w.heap.size w) _⟩
set_option maxRecDepth 100000 in
theorem NewSignatureAlgorithm_calls (w : World) (s : ByteArray) : Calls Tryd.prog 82 #[.string s] w (Gives (three s false false) w) := by
  go_enter Tryd.func82, Tryd.ntmps82
  go_wp2
  exact bodyPost_ret (results_cell_row rfl _ _ w.heap.size 156 #[.string s, .bool false, .bool false] (0, 0) _ rfl (heap_alloc_new w _) Tryd.underlying156 rfl (by kernel_rfl)) rfl ⟨rfl, below_alloc' (Below.refl w.heap.size w) _⟩
set_option maxRecDepth 100000 in
theorem KeyType_String_calls (w : World) (s : ByteArray) (d y : Bool) : Calls Tryd.prog 120 #[.agg #[.string s, .bool d]] w (Gives (.string s) w) := by
  go_enter Tryd.func120, Tryd.ntmps120
  go_wp2
  go_ret
  exact ⟨rfl, below_alloc' (Below.refl w.heap.size w) _⟩
set_option maxRecDepth 100000 in
theorem ContentEncryptionAlgorithm_String_calls (w : World) (s : ByteArray) (d y : Bool) : Calls Tryd.prog 75 #[.agg #[.string s, .bool d]] w (Gives (.string s) w) := by
  go_enter Tryd.func75, Tryd.ntmps75
  go_wp2
  go_ret
  exact ⟨rfl, below_alloc' (Below.refl w.heap.size w) _⟩
set_option maxRecDepth 100000 in
theorem KeyEncryptionAlgorithm_String_calls (w : World) (s : ByteArray) (d y : Bool) : Calls Tryd.prog 74 #[.agg #[.string s, .bool d, .bool y]] w (Gives (.string s) w) := by
  go_enter Tryd.func74, Tryd.ntmps74
  go_wp2
  go_ret
  exact ⟨rfl, below_alloc' (Below.refl w.heap.size w) _⟩
set_option maxRecDepth 100000 in
theorem SignatureAlgorithm_String_calls (w : World) (s : ByteArray) (d y : Bool) : Calls Tryd.prog 73 #[.agg #[.string s, .bool d, .bool y]] w (Gives (.string s) w) := by
  go_enter Tryd.func73, Tryd.ntmps73
  go_wp2
  go_ret
  exact ⟨rfl, below_alloc' (Below.refl w.heap.size w) _⟩
end Go.Proofs.YtlbnemnadegapaaDoor.Nq
