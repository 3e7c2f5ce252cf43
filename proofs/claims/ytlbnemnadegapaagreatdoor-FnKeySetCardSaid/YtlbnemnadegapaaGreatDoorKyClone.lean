/- slices.Clone, slices.IndexFunc over ints; slices.EqualFunc over what steps give. -/
import Derived.Test.YtlbnemnadegapaaGreatDoorKySeen
import Derived.Deep.LoopGhost
import Derived.Deep.RegionHeld
set_option linter.unusedVariables false
set_option linter.unusedSimpArgs false
namespace Go.Proofs.YtlbnemnadegapaaGreatDoor.Ky
open Go.RowKit Go.Proofs.YtlbnemnadegapaaGreatDoor.K Go.Proofs.YtlbnemnadegapaaGreatDoor.Nm
section
variable {w w' : World}
theorem int_one (l : List Int) : ∀ u ∈ l.map (Value.int .i64), u.oneCell' = true := fun u hu => by
  obtain ⟨z, _, rfl⟩ := List.mem_map.1 hu
  rfl
set_option maxRecDepth 100000 in
set_option maxHeartbeats 1000000 in
theorem CloneI_calls {B : Nat} (A : Option Addr) (n c : Nat) (l : List Int) (h : KL w B 3 (.slice A n c) (l.map (Value.int .i64))) (hl : l.length ≤ 1000) :
    Calls Tryz.prog 17 #[.slice A n c] w fun e w' => ∃ A' c', e = .returned (.slice A' l.length c') ∧ KL w' w.heap.size 3 (.slice A' l.length c') (l.map (Value.int .i64)) ∧ Below w.heap.size w w' := by
  obtain ⟨i0, hi, hz0, hz1, hz2⟩ := info_parts infoInt
  have HI := Lib.hid (And.intro hi (And.intro hz0 (And.intro hz1 hz2)))
  obtain ⟨A1, c1, e1, hc1, _⟩ := h.len
  rw [List.length_map] at e1 hc1
  injection e1 with e1 e2 e3
  subst e1; subst e3
  have HKL := Lib.hid h
  have HE := Lib.hid (own_empty w 3)
  clear hi hz0 hz1 hz2 h
  cases A with
  | none =>
    have h0 : l = [] ∧ c = 0 := by
      obtain ⟨A2, c2, f1, f2, f3, f4⟩ := HKL.out
      injection f1 with f1 f5 f6
      subst f1
      rcases f4 with ⟨_, f4⟩ | ⟨g, off, cs, f4, _⟩
      · rw [List.length_map] at f2
        refine ⟨List.length_eq_zero_iff.1 (by omega), by omega⟩
      · cases f4
    obtain ⟨rfl, rfl⟩ := h0
    simp only [List.length_nil] at e2
    subst e2
    have hE : ∀ W : World, Sem.run Tryz.prog (binOp .eql 31 (.slice none 0 0) (.slice none 0 0)) W = .ok (.bool true) W := fun W => by kernel_rfl
    go_enter Tryz.func17, Tryz.ntmps17
    go_wp2
    go_ret
    exact ⟨none, 0, rfl, KL.nil _ _ _, Below.refl _ _⟩
  | some ad =>
    have hr := (KL.reads HKL.out).1
    have HRW := Lib.hid (Reads.below hr (below_alloc' (Below.refl w.heap.size w) (.cells #[] 3)) (Nat.le_refl _))
    have HB2 := Lib.hid (below_alloc' (Below.refl w.heap.size w) (.cells #[] 3))
    subst e2
    clear hr
    have hE : ∀ (W : World) (k : Nat), Sem.run Tryz.prog (binOp .eql 31 (.slice (some ad) k c) (.slice none 0 0)) W = .ok (.bool false) W := fun W k => by kernel_rfl
    go_enter Tryz.func17, Tryz.ntmps17
    go_wp2_with (at_builtin; refine wpList_append_own _ rfl _ _ 31 rfl w.heap.size 3 i0 (.int .i64 0) 1 8 Tryz.underlying31 HI.out.1 HI.out.2.1 HI.out.2.2.1 HI.out.2.2.2 rfl (by decide) _ 0 [] rfl HE.out ad l.length c (l.map (Value.int .i64)) rfl (by simp) (fun k u hu => by
        have hk : 0 < l.length := by
          have := (List.getElem?_eq_some_iff.1 hu).1
          rw [List.length_map] at this
          omega
        obtain ⟨a', e', _, hc⟩ := HRW.out.2 hk
        injection e' with e'
        subst e'
        exact hc k u hu) (int_one l) (by unfold maxLen; omega) (by omega) (by simp) ?_; intro v' w3 hown' hg3 _; rw [Nat.zero_add, List.nil_append] at hown'; obtain ⟨A', c', hv⟩ := own_slice hown'; subst hv; have HF := Lib.hid (And.intro (KL.of_own hown') (HB2.out.trans (own_low HE.out hg3 (by rw [World.size_alloc]; omega)))); clear hown' hg3)
    go_ret
    exact ⟨A', c', rfl, HF.out.1, HF.out.2⟩
/-- The first that is so: what a closure says must not depend on the world. -/
def ixF (p : Int → Bool) (l : List Int) : Int := match l.findIdx? p with | some i => i | none => -1
theorem ixF_at {p : Int → Bool} {l : List Int} {j : Nat} (hj : j < l.length) (h : p l[j] = true) (hb : ∀ y ∈ l.take j, p y = false) : ixF p l = j := by
  unfold ixF
  rw [List.findIdx?_eq_some_iff_getElem.2 ⟨hj, h, fun i hi => by
    have : l[i]'(by omega) ∈ l.take j := by
      rw [List.mem_take_iff_getElem]
      exact ⟨i, by omega, rfl⟩
    rw [hb _ this]; simp⟩]
theorem ixF_no {p : Int → Bool} {l : List Int} (h : ∀ y ∈ l, p y = false) : ixF p l = -1 := by
  unfold ixF
  rw [List.findIdx?_eq_none_iff.2 h]
set_option maxRecDepth 100000 in
set_option maxHeartbeats 1000000 in
theorem IndexF_calls {cap : Array Value} {A : Option Addr} {n c : Nat} {l : List Int} (h : IL w A n l) (hn : n ≤ 100000) (p : Int → Bool)
    (hF : ∀ (W : World), Below w.heap.size w W → ∀ z ∈ l, Calls Tryz.prog 20 (#[.int .i64 z] ++ cap) W fun e w' => e = .returned (.bool (p z)) ∧ Below W.heap.size W w') :
    Calls Tryz.prog 19 #[.slice A n c, .func (.func 20) #[] cap] w fun e w' => e = .returned (.int .i64 (ixF p l)) ∧ Below w.heap.size w w' := by
  have HLN := Lib.hid h.len
  have HF := Lib.hid hF
  have HB0 := Lib.hid (Below.refl w.heap.size w)
  clear hF
  go_enter Tryz.func19, Tryz.ntmps19
  go_wp2
  go_loopg [8] n (fun q u wr => ∃ j : Nat, q + j = n ∧ u = .int .i64 j ∧ Hid (Below w.heap.size w wr) ∧ Hid (∀ y ∈ l.take j, p y = false))
  case atStart => exact ⟨0, rfl, rfl, HB0, Lib.hid (by simp)⟩
  case round =>
    obtain ⟨j, hqj, rfl, HB, HP⟩ := hrel
    by_cases hj : j < n
    · have hjl : j < l.length := by have := HLN.out; omega
      obtain ⟨ad, hA, hc1⟩ := (h.below HB.out).at_ hjl
      subst hA
      obtain ⟨y, hy⟩ : ∃ y, y = l[j] := ⟨_, rfl⟩
      rw [← hy] at hc1
      have HY := Lib.hid hy
      have HCL := Lib.hid (HF.out wr HB.out y (by rw [hy]; exact List.getElem_mem _))
      clear hy
      obtain ⟨b, hb⟩ : ∃ b, b = p y := ⟨_, rfl⟩
      rw [← hb] at HCL
      have HBV := Lib.hid hb
      clear hb h
      cases b with
      | true =>
        go_wp2_with (go_at_call 20; refine Calls.mono HCL.out ?_; rintro e w1 ⟨rfl, hb1⟩; have HB1 := Lib.hid (HB.out.trans (hb1.mono HB.out.size)); clear hb1)
        go_ret
        exact ⟨(by rw [ixF_at hjl (by rw [← HY.out]; exact HBV.out.symm) HP.out]; rfl), HB1.out⟩
      | false =>
        go_wp2_with (go_at_call 20; refine Calls.mono HCL.out ?_; rintro e w1 ⟨rfl, hb1⟩; have HB1 := Lib.hid (HB.out.trans (hb1.mono HB.out.size)); clear hb1)
        go_roundg (n - (j + 1))
        case measure => omega
        case rel =>
          refine ⟨j + 1, by omega, by go_num, HB1, Lib.hid ?_⟩
          intro z hz
          rw [List.take_succ_eq_append_getElem hjl] at hz
          rcases List.mem_append.1 hz with hz | hz
          · exact HP.out z hz
          · rw [List.mem_singleton.1 hz, ← HY.out]
            exact HBV.out.symm
    · have hlt : ¬ (j : Int) < (n : Int) := by omega
      go_wp2
      go_ret
      have hall : ∀ y ∈ l, p y = false := fun y hy => HP.out y (by rw [List.take_of_length_le (by have := HLN.out; omega)]; exact hy)
      exact ⟨(by rw [ixF_no hall]; rfl), HB.out⟩
end
end Go.Proofs.YtlbnemnadegapaaGreatDoor.Ky
