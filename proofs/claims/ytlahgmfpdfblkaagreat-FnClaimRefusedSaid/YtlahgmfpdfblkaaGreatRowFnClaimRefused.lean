/- The statement FnClaimRefused: for every input that can be read the law returns true, and its arguments read behind the call as before; no condition. -/
import Derived.Test.YtlahgmfpdfblkaaGreatRows
import Derived.Test.YtlahgmfpdfblkaaGreatRwS
import Derived.Test.YtlahgmfpdfblkaaGreatLawRefused
import Derived.Test.YtlahgmfpdfblkaaGreatRwFd
set_option linter.unusedVariables false
set_option linter.unusedSimpArgs false
namespace Go.Proofs.YtlahgmfpdfblkaaGreat.RowFnClaimRefused
open Go.ChangeShapes Go.WideShapes Go.ChangeAt Go.RowKit Go.Proofs.YtlahgmfpdfblkaaGreat.K Go.Proofs.YtlahgmfpdfblkaaGreat.Own Go.Proofs.YtlahgmfpdfblkaaGreat.Rw 
open Go.ChangeMaps (open_string shut_string)
set_option maxRecDepth 100000 in
theorem lifted (os : Os) (started : os.Started) (H : Type) (enc : TypeId × Value → H) :
    ReturnsInHanded {} Tryz.checked os 3 .any (Rows.fnClaimRefusedSpec.pre6 enc Tryz.prog Tryz.f3 Rows.fnClaimRefusedRow.domain false) (Rows.fnClaimRefusedSpec.post enc Tryz.prog Tryz.f3 false true false false) := by
  refine returnsInHanded_of_change_sized (C := Tryz.checked) own started (by kernel_rfl) Tryz.func3
    (ChangeSpec.witness6 (enc := enc) (C := Tryz.checked) false ⟨#[], #[.slice none 0 0, .agg #[.int .i64 0,.string ByteArray.empty,.bool false,.int .i32 0,.slice none 0 0]], []⟩ 8 (by kernel_rfl) (by kernel_rfl) (by kernel_rfl) (by kernel_rfl)) ?_
  intro W base args ds gs before hval0 hW hcnd hsz0 _
  have hsz : (DataW.weightsEach Tryz.prog (Tryz.f3.params.toList ++ Rows.fnClaimRefusedSpec.plain.varTypes Tryz.prog) (ds ++ gs)).all (· ≤ reachBytes) = true := hsz0
  have hval : ∀ (j : Nat) t v, Tryz.f3.params[j]? = some t → args[j]? = some v → Value.okWide Tryz.prog W .any base t v := hval0
  have hW' := hW
  obtain ⟨p, q, hA0, hV, rfl, hfz, hnd⟩ := hW
  have hA : DataW.TrodAll enc Tryz.prog W 0 (fun _ => true) true Tryz.f3.params.toList args.toList ds p := hA0
  rw [Tryz.params3] at hA hval hsz
  obtain ⟨v0, vs0, d0, ds0, p0, q0, hargs, rfl, rfl, h0, r0⟩ := trodAll_cons hA
  obtain ⟨v1, vs1, d1, ds1, p1, q1, rfl, rfl, rfl, h1, r1⟩ := trodAll_cons r0
  obtain ⟨rfl, rfl, rfl⟩ := trodAll_nil r1
  obtain rfl : args = #[v0, v1] := by cases args; simp_all
  obtain ⟨rfl, rfl⟩ := trodVars_none hV
  have k0 := h0
  have lt0 : ∀ x ∈ p0, x.block < W.heap.size := by obtain ⟨m, hm⟩ := k0; exact DataW.trod_lt m _ _ _ hm
  obtain ⟨a0, n0, c0, l0, rfl, b0⟩ := open_fields (hval 0 22 v0 rfl rfl) h0
  have k1 := h1
  have lt1 : ∀ x ∈ p1, x.block < W.heap.size := by obtain ⟨m, hm⟩ := k1; exact DataW.trod_lt m _ _ _ hm
  obtain ⟨k1x, t1x, i1x, z1x, a1, n1, c1, l1, rfl, b1⟩ := open_plain (hval 1 25 v1 rfl rfl) h1
  clear hA0 hval0 hsz0 hsz
  refine (Cl.FnClaimRefused_calls W a0 n0 c0 l0 b0 k1x t1x i1x z1x a1 n1 c1 l1 b1).mono fun e W' ⟨he, bel⟩ => ?_
  subst he
  exact ⟨_, rfl, _, _, _, [], _, [], hW', trodAll_mk1 (shut_bool Tryz.underlying4 _), (trodAll_cons_mk (Below.trod laidOut (by kernel_rfl) (of_decide_eq_true (by kernel_rfl)) k0 bel lt0) (trodAll_cons_mk (Below.trod laidOut (by kernel_rfl) (of_decide_eq_true (by kernel_rfl)) k1 bel lt1) trodAll_mk0)), rfl, bel.frame _, fun h => by cases h⟩
theorem over : Rows.fnClaimRefusedRow.holds Tryz.pinned (OpenSpec.ofChange Rows.fnClaimRefusedSpec) :=
  OpenClaim.holds_of_wide 3 Tryz.f3 rfl rfl rfl rfl rfl rfl rfl ⟨rfl, rfl, rfl, rfl, rfl⟩ rfl rfl rfl rfl rfl (by kernel_rfl) Tryz.func3 (by kernel_rfl)
    (of_decide_eq_true (by kernel_rfl)) (by unfold Func.isWrapper; first | (rw [if_pos (by decide +kernel)]; kernel_rfl) | (rw [if_neg (by decide +kernel)]; exact ⟨rfl, rfl⟩))
    (fun os started H enc _ => lifted os started H enc)
end Go.Proofs.YtlahgmfpdfblkaaGreat.RowFnClaimRefused
namespace Go.Proofs.YtlahgmfpdfblkaaGreat
theorem fnClaimRefused_holds : Rows.FnClaimRefusedSaid := RowFnClaimRefused.over
#print axioms fnClaimRefused_holds
end Go.Proofs.YtlahgmfpdfblkaaGreat
