/- The statement FnPartSegments: for every input that can be read the law returns true, and its arguments read behind the call as before; no condition. The card: the variable that the row lists is tied to the program's text by the given tie. -/
import Derived.Test.YtimicibalhaljaaDoorRows
import Derived.Test.YtimicibalhaljaaDoorCards
import Derived.Test.YtimicibalhaljaaDoorTie
import Derived.Test.YtimicibalhaljaaDoorRw
import Derived.Test.YtimicibalhaljaaDoorLawSegments
import Derived.Test.YtimicibalhaljaaDoorRwArr
import Derived.LaidMore
import Derived.SevenTiedAt
import Derived.Stop.Joined
set_option linter.unusedVariables false
set_option linter.unusedSimpArgs false
namespace Go.Proofs.YtimicibalhaljaaDoor.RowFnPartSegments
open Go.ChangeShapes Go.WideShapes Go.ChangeAt Go.RowKit Go.Proofs.YtimicibalhaljaaDoor.K Go.Proofs.YtimicibalhaljaaDoor.Own Go.Proofs.YtimicibalhaljaaDoor.Rw
open Go.ChangeMaps (open_string shut_string)
def laidL {H : Type} : List (String × DataW H) := [("pub-bullarium/pub/jwx/jws/jwsbb.errInvalidNumberOfSegments", Rows.laid_pub_bullarium_pub_jwx_jws_jwsbb_errInvalidNumberOfSegments)]
theorem door_met (os : Os) (args : Array Value) : laidMetH Tryd.prog laidL ((World.doorLaid Tryd.prog 400 os).forCall (fun _ _ => 0) ⟨#[], args, []⟩).memory :=
  laidMetH_of_parts3 (fuel := 8) (laidMet_of_run' 8 (by kernel_rfl) (by kernel_rfl)) (by kernel_rfl) (by kernel_rfl)
set_option maxRecDepth 100000 in
theorem lifted (os : Os) (started : os.Started) (H : Type) (enc : TypeId × Value → H) :
    ReturnsInHanded {} Tryd.checked os 3 .any (fun w args => (Rows.fnPartSegmentsSpec.pre enc Tryd.prog Tryd.f3 [] false w args ∧ laidMetH Tryd.prog laidL w) ∧ sizedMet enc Tryd.prog Tryd.f3 (OpenSpec.ofChange Rows.fnPartSegmentsSpec) false w args)
      (Rows.fnPartSegmentsSpec.post enc Tryd.prog Tryd.f3 false true false false) := by
  refine returnsInHanded_of_change_and (C := Tryd.checked) (X := fun w _ => laidMetH Tryd.prog laidL w) (fun _ _ _ hh h => h.of_heap hh) own started (by kernel_rfl) Tryd.func3
    (ChangeSpec.witness_shaped (enc := enc) (C := Tryd.checked) (os := os) (X := fun w _ => laidMetH Tryd.prog laidL w) false (World.doorLaid Tryd.prog 400 os) #[.slice none 0 0, .slice none 0 0, .slice none 0 0] 8 rfl (World.shaped_of_RefB (by kernel_rfl) (by kernel_rfl)) (by kernel_rfl) (by kernel_rfl) (by kernel_rfl) (door_met os _)) ?_
  intro W base args ds gs before hval0 hW _ _ hL _
  have hval : ∀ (j : Nat) t v, Tryd.f3.params[j]? = some t → args[j]? = some v → Value.okWide Tryd.prog W .any base t v := hval0
  have hW' := hW
  obtain ⟨p, q, hA0, hV, rfl, hfz, hnd⟩ := hW
  have hA : DataW.TrodAll enc Tryd.prog W 0 (fun _ => true) true Tryd.f3.params.toList args.toList ds p := hA0
  rw [Tryd.params3] at hA hval
  obtain ⟨v0, vs0, d0, ds0, p0, q0, hargs, rfl, rfl, h0, r0⟩ := trodAll_cons hA
  obtain ⟨v1, vs1, d1, ds1, p1, q1, rfl, rfl, rfl, h1, r1⟩ := trodAll_cons r0
  obtain ⟨v2, vs2, d2, ds2, p2, q2, rfl, rfl, rfl, h2, r2⟩ := trodAll_cons r1
  obtain ⟨rfl, rfl, rfl⟩ := trodAll_nil r2
  obtain rfl : args = #[v0, v1, v2] := by cases args; simp_all
  obtain ⟨rfl, rfl⟩ := trodVars_none hV
  have k0 := h0
  have lt0 : ∀ x ∈ p0, x.block < W.heap.size := by obtain ⟨m, hm⟩ := k0; exact DataW.trod_lt m _ _ _ hm
  obtain ⟨e0, q0x, hc0⟩ := okWide_slice' Tryd.underlying22 (hval 0 22 v0 rfl rfl) h0
  obtain ⟨a0, n0, c0, l0, rfl, b0, m0⟩ := open_elem (u := v0) Tryd.underlying22 Tryd.underlying5 (by kernel_rfl) hc0
  have k1 := h1
  have lt1 : ∀ x ∈ p1, x.block < W.heap.size := by obtain ⟨m, hm⟩ := k1; exact DataW.trod_lt m _ _ _ hm
  obtain ⟨e1, q1x, hc1⟩ := okWide_slice' Tryd.underlying22 (hval 1 22 v1 rfl rfl) h1
  obtain ⟨a1, n1, c1, l1, rfl, b1, m1⟩ := open_elem (u := v1) Tryd.underlying22 Tryd.underlying5 (by kernel_rfl) hc1
  have k2 := h2
  have lt2 : ∀ x ∈ p2, x.block < W.heap.size := by obtain ⟨m, hm⟩ := k2; exact DataW.trod_lt m _ _ _ hm
  obtain ⟨e2, q2x, hc2⟩ := okWide_slice' Tryd.underlying22 (hval 2 22 v2 rfl rfl) h2
  obtain ⟨a2, n2, c2, l2, rfl, b2, m2⟩ := open_elem (u := v2) Tryd.underlying22 Tryd.underlying5 (by kernel_rfl) hc2
  clear hA0 hval0
  refine (B64.FnPartSegments_calls W a0 a1 a2 n0 n1 n2 c0 c1 c2 l0 l1 l2 b0 b1 b2).mono fun e W' ⟨he, bel⟩ => ?_
  subst he
  exact ⟨_, rfl, _, _, _, [], _, [], hW', trodAll_mk1 (shut_bool Tryd.underlying4 _), (trodAll_cons_mk (Below.trod laidOut (by kernel_rfl) (of_decide_eq_true (by kernel_rfl)) k0 bel lt0) (trodAll_cons_mk (Below.trod laidOut (by kernel_rfl) (of_decide_eq_true (by kernel_rfl)) k1 bel lt1) (trodAll_cons_mk (Below.trod laidOut (by kernel_rfl) (of_decide_eq_true (by kernel_rfl)) k2 bel lt2) trodAll_mk0))), rfl, bel.frame _, fun h => by cases h⟩
theorem over : Rows.fnPartSegmentsRow.holds Tryd.pinned (OpenSpec.ofChange Rows.fnPartSegmentsSpec) :=
  OpenClaim.holds_of_wide 3 Tryd.f3 rfl rfl rfl rfl rfl rfl rfl ⟨rfl, rfl, rfl, rfl, rfl⟩ rfl rfl rfl rfl rfl (by kernel_rfl) Tryd.func3 (by kernel_rfl)
    (of_decide_eq_true (by kernel_rfl)) (by unfold Func.isWrapper; first | (rw [if_pos (by decide +kernel)]; kernel_rfl) | (rw [if_neg (by decide +kernel)]; exact ⟨rfl, rfl⟩))
    (fun os started H enc _ => lifted os started H enc)
end Go.Proofs.YtimicibalhaljaaDoor.RowFnPartSegments
namespace Go.Proofs.YtimicibalhaljaaDoor
theorem fnPartSegmentsCard_holds : Rows.FnPartSegmentsCardSaid :=
  Claim7.holds_tied_plain_at .later [] [.sentinel] true (true, "fe4264fff97232583528d31c8aaa5a8a7d0f1cd7ad6412c29d12f12304467b11") false
    RowFnPartSegments.over (fun _ h => by cases h) (by kernel_rfl) (fun _ h => by cases h) fnPartSegments_row_tie rfl ⟨rfl, rfl⟩ (by kernel_rfl) rfl
    (fun f fn hf hfn => by
      obtain rfl : f = 3 := Option.some.inj ((show Tryd.prog.funcNamed "pub-bullarium/laws.FnPartSegments" = some 3 by kernel_rfl).symm.trans hf) |>.symm
      obtain rfl : fn = Tryd.f3 := (Option.some.inj (Tryd.func3.symm.trans hfn)).symm
      exact ⟨by kernel_rfl, fun j t ht => by
        rw [Tryd.params3] at ht
        have hm : t ∈ [22] := by
          have := Array.mem_of_getElem? ht
          simpa using this
        have hall : ([22].all fun u => !Tryd.prog.wantsStandIn u) = true := by kernel_rfl
        exact (show Tryd.prog.wantsStandIn t = false by simpa using List.all_eq_true.1 hall t hm)⟩)
    (by kernel_rfl)
#print axioms fnPartSegmentsCard_holds
end Go.Proofs.YtimicibalhaljaaDoor
