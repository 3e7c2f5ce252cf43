/- jwa.KeyAlgorithmFrom at a text that is an algorithm of signatures; the condition is that the registry has it. -/
import Derived.Test.YtlbnemnadegapaaDoorNqLook
import Derived.Test.YtlbnemnadegapaaDoorKfAcc
set_option linter.unusedVariables false
set_option linter.unusedSimpArgs false
namespace Go.Proofs.YtlbnemnadegapaaDoor.Kf
open Go.RowKit Go.Proofs.YtlbnemnadegapaaDoor.K Go.Proofs.YtlbnemnadegapaaDoor.Nq Go.Proofs.YtlbnemnadegapaaDoor.Ky
/-- An algorithm of signatures of this name. -/
def SigV (s : ByteArray) (v : Value) : Prop := ∃ d y, v = .iface 156 (three s d y)
def IsSig (s : ByteArray) : Prop := ∃ d y, lookL regTab s = some (ent 1 156 (three s d y))
set_option maxRecDepth 100000 in
set_option maxHeartbeats 1000000 in
theorem AlgFrom_calls (w : World) (s : ByteArray) (h : IsSig s) : Calls Tryd.prog 68 #[.iface 9 (.string s)] w fun e w' => ∃ v, e = .returned (.tuple #[v, .nilIface]) ∧ SigV s v ∧ Below w.heap.size w w' := by
  obtain ⟨d, y, hl⟩ := h
  have HR := Lib.hid (algRegistry_calls w)
  have HL := Lib.hid hl
  have t1 : ∀ W, Sem.run Tryd.prog (Instr.typeAssert (.iface 9 (.string s)) 20 156 true) W = .ok (.tuple #[.agg #[.string ⟨#[]⟩, .bool false, .bool false], .bool false]) W := fun W => by kernel_rfl
  have t2 : ∀ W, Sem.run Tryd.prog (Instr.typeAssert (.iface 9 (.string s)) 20 157 true) W = .ok (.tuple #[.agg #[.string ⟨#[]⟩, .bool false, .bool false], .bool false]) W := fun W => by kernel_rfl
  have t3 : ∀ W, Sem.run Tryd.prog (Instr.typeAssert (.iface 9 (.string s)) 20 159 true) W = .ok (.tuple #[.agg #[.string ⟨#[]⟩, .bool false], .bool false]) W := fun W => by kernel_rfl
  have t4 : ∀ W, Sem.run Tryd.prog (Instr.typeAssert (.iface 9 (.string s)) 20 9 true) W = .ok (.tuple #[.string s, .bool true]) W := fun W => by kernel_rfl
  clear hl
  go_enter Tryd.func68, Tryd.ntmps68
  go_wp2_with (go_at_call 76; refine HR.out.mono ?_; rintro e w1 ⟨m, rfl, hm, hB, hM⟩; have hlk := run_look Tryd.underlying171 Tryd.underlying9 w1 m _ hM s _ (zero_ent w1); rw [HL.out] at hlk; simp only [Option.getD, Option.isSome, ent] at hlk; have HB := Lib.hid hB; clear hM hB hm HR)
  refine bodyPost_ret (v := .tuple #[.iface 156 (three s d y), .nilIface]) (by kernel_rfl) rfl ?_
  exact ⟨_, rfl, ⟨d, y, rfl⟩, below_alloc' HB.out _⟩
end Go.Proofs.YtlbnemnadegapaaDoor.Kf
