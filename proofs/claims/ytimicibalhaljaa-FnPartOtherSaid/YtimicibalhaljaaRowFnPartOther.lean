/- The statement FnPartOther: for every input that can be read the law returns true, and its arguments read behind the call as before; no condition. -/
import Derived.Test.YtimicibalhaljaaRows
import Derived.Test.YtimicibalhaljaaRw
import Derived.Test.YtimicibalhaljaaLawOther
import Derived.Test.YtimicibalhaljaaRwArr
set_option linter.unusedVariables false
set_option linter.unusedSimpArgs false
namespace Go.Proofs.Ytimicibalhaljaa.RowFnPartOther
open Go.ChangeShapes Go.WideShapes Go.ChangeAt Go.RowKit Go.Proofs.Ytimicibalhaljaa.K Go.Proofs.Ytimicibalhaljaa.Own Go.Proofs.Ytimicibalhaljaa.Rw 
open Go.ChangeMaps (open_string shut_string)
set_option maxRecDepth 100000 in
theorem lifted (os : Os) (started : os.Started) (H : Type) (enc : TypeId × Value → H) :
    ReturnsInHanded {} Try.checked os 7 .any (Rows.fnPartOtherSpec.pre6 enc Try.prog Try.f7 Rows.fnPartOtherRow.domain false) (Rows.fnPartOtherSpec.post enc Try.prog Try.f7 false true false false) := by
  refine returnsInHanded_of_change_sized (C := Try.checked) own started (by kernel_rfl) Try.func7
    (ChangeSpec.witness6 (enc := enc) (C := Try.checked) false ⟨#[], #[.agg #[.slice none 0 0,.slice none 0 0,.slice none 0 0], .agg #[.slice none 0 0,.slice none 0 0,.slice none 0 0]], []⟩ 8 (by kernel_rfl) (by kernel_rfl) (by kernel_rfl) (by kernel_rfl)) ?_
  intro W base args ds gs before hval0 hW hcnd hsz0 _
  have hsz : (DataW.weightsEach Try.prog (Try.f7.params.toList ++ Rows.fnPartOtherSpec.plain.varTypes Try.prog) (ds ++ gs)).all (· ≤ reachBytes) = true := hsz0
  have hval : ∀ (j : Nat) t v, Try.f7.params[j]? = some t → args[j]? = some v → Value.okWide Try.prog W .any base t v := hval0
  have hW' := hW
  obtain ⟨p, q, hA0, hV, rfl, hfz, hnd⟩ := hW
  have hA : DataW.TrodAll enc Try.prog W 0 (fun _ => true) true Try.f7.params.toList args.toList ds p := hA0
  rw [Try.params7] at hA hval hsz
  obtain ⟨v0, vs0, d0, ds0, p0, q0, hargs, rfl, rfl, h0, r0⟩ := trodAll_cons hA
  obtain ⟨v1, vs1, d1, ds1, p1, q1, rfl, rfl, rfl, h1, r1⟩ := trodAll_cons r0
  obtain ⟨rfl, rfl, rfl⟩ := trodAll_nil r1
  obtain rfl : args = #[v0, v1] := by cases args; simp_all
  obtain ⟨rfl, rfl⟩ := trodVars_none hV
  have k0 := h0
  have lt0 : ∀ x ∈ p0, x.block < W.heap.size := by obtain ⟨m, hm⟩ := k0; exact DataW.trod_lt m _ _ _ hm
  obtain ⟨a00, a01, a02, n00, n01, n02, c00, c01, c02, l00, l01, l02, rfl, b00, b01, b02, m00, m01, m02⟩ := open_three Try.underlying36 Try.underlying22 Try.underlying5 (by kernel_rfl) (by kernel_rfl) (by kernel_rfl) (hval 0 36 v0 rfl rfl) h0
  have k1 := h1
  have lt1 : ∀ x ∈ p1, x.block < W.heap.size := by obtain ⟨m, hm⟩ := k1; exact DataW.trod_lt m _ _ _ hm
  obtain ⟨a10, a11, a12, n10, n11, n12, c10, c11, c12, l10, l11, l12, rfl, b10, b11, b12, m10, m11, m12⟩ := open_three Try.underlying36 Try.underlying22 Try.underlying5 (by kernel_rfl) (by kernel_rfl) (by kernel_rfl) (hval 1 36 v1 rfl rfl) h1
  clear hA0 hval0 hsz0 hsz
  refine (B64.FnPartOther_calls W a00 a01 a02 a10 a11 a12 n00 n01 n02 c00 c01 c02 n10 n11 n12 c10 c11 c12 l00 l01 l02 l10 l11 l12 b00 b01 b02 b10 b11 b12).mono fun e W' ⟨he, bel⟩ => ?_
  subst he
  exact ⟨_, rfl, _, _, _, [], _, [], hW', trodAll_mk1 (shut_bool Try.underlying4 _), (trodAll_cons_mk (Below.trod laidOut (by kernel_rfl) (of_decide_eq_true (by kernel_rfl)) k0 bel lt0) (trodAll_cons_mk (Below.trod laidOut (by kernel_rfl) (of_decide_eq_true (by kernel_rfl)) k1 bel lt1) trodAll_mk0)), rfl, bel.frame _, fun h => by cases h⟩
theorem over : Rows.fnPartOtherRow.holds Try.pinned (OpenSpec.ofChange Rows.fnPartOtherSpec) :=
  OpenClaim.holds_of_wide 7 Try.f7 rfl rfl rfl rfl rfl rfl rfl ⟨rfl, rfl, rfl, rfl, rfl⟩ rfl rfl rfl rfl rfl (by kernel_rfl) Try.func7 (by kernel_rfl)
    (of_decide_eq_true (by kernel_rfl)) (by unfold Func.isWrapper; first | (rw [if_pos (by decide +kernel)]; kernel_rfl) | (rw [if_neg (by decide +kernel)]; exact ⟨rfl, rfl⟩))
    (fun os started H enc _ => lifted os started H enc)
end Go.Proofs.Ytimicibalhaljaa.RowFnPartOther
namespace Go.Proofs.Ytimicibalhaljaa
theorem fnPartOther_holds : Rows.FnPartOtherSaid := RowFnPartOther.over
#print axioms fnPartOther_holds
end Go.Proofs.Ytimicibalhaljaa
