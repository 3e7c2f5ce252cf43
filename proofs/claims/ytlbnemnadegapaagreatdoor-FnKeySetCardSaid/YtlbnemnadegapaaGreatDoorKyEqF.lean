/- slices.EqualFunc over what steps gave, if it is the same. -/
import Derived.Test.YtlbnemnadegapaaGreatDoorKySeen
import Derived.Deep.LoopGhost
import Derived.Deep.RegionHeld
set_option linter.unusedVariables false
set_option linter.unusedSimpArgs false
namespace Go.Proofs.YtlbnemnadegapaaGreatDoor.Ky
open Go.RowKit Go.Proofs.YtlbnemnadegapaaGreatDoor.K Go.Proofs.YtlbnemnadegapaaGreatDoor.Nm
section
variable {w w' : World} {A A2 : Option Addr} {n c c2 : Nat} {sns : List SN}
set_option maxRecDepth 100000 in
set_option maxHeartbeats 2000000 in
theorem EqF_calls (h1 : SNL w A n sns) (h2 : SNL w A2 n sns) (hl : ∀ s ∈ sns, s.all.length ≤ 1000) (hn : n ≤ 1000) :
    Calls Tryz.prog 7 #[.slice A n c, .slice A2 n c2, .func (.func 10) #[] #[]] w fun e w' => e = .returned (.bool true) ∧ Below w.heap.size w w' := by
  have HLN := Lib.hid h1.len
  have HS := Lib.hid (And.intro h1 (And.intro h2 hl))
  have HB0 := Lib.hid (Below.refl w.heap.size w)
  clear h1 h2 hl
  go_enter Tryz.func7, Tryz.ntmps7
  go_wp2
  go_loopg [17] n (fun q u wr => ∃ j : Nat, q + j = n ∧ u = .int .i64 j ∧ Hid (Below w.heap.size w wr))
  case atStart => exact ⟨0, rfl, rfl, HB0⟩
  case round =>
    obtain ⟨j, hqj, rfl, HB⟩ := hrel
    by_cases hj : j < n
    · have hjl : (j : Int) < (n : Int) := by omega
      obtain ⟨s, hs⟩ : ∃ s, sns[j]? = some s := ⟨_, List.getElem?_eq_getElem (by have := HLN.out; omega)⟩
      obtain ⟨ad5, Al, nl, cl, An, nn, nc, hA5, x0, x1, x2, x3, x4, x5, hIa⟩ := (HS.out.1.below HB.out).get hs
      obtain ⟨ad6, Bl, ml, dl, Bn, mn, mc_, hA6, y0, y1, y2, y3, y4, y5, hIb⟩ := (HS.out.2.1.below HB.out).get hs
      have hsl := HS.out.2.2 s (List.mem_of_getElem? hs)
      subst hA5
      subst hA6
      have HSS := Lib.hid (show ∀ W, Below wr.heap.size wr W → _ from fun W hW => sameSeen_calls (w := W) s hsl (N1 := An) (N2 := Bn) (c1 := cl) (c2 := dl) (m1 := nn) (d1 := nc) (m2 := mn) (d2 := mc_) (hIa.below hW) (hIb.below hW))
      have al : ∀ p v, wr.cell? p = some v → ∀ o, (wr.alloc o).cell? p = some v := fun p v h o => by rw [World.cell?_alloc_some wr p _ (by rw [h]; rfl), h]
      have y0a := al _ _ y0
      have y1a := al _ _ y1
      have y2a := al _ _ y2
      have y3a := al _ _ y3
      have y4a := al _ _ y4
      have y5a := al _ _ y5
      clear al hIa hIb hsl hs
      go_wp2_with (go_at_call 10; refine Calls.mono (HSS.out _ (below_alloc' (below_alloc' (Below.refl _ _) _) _)) ?_; rintro e w7 ⟨rfl, hb7⟩; have HB7 := Lib.hid (HB.out.trans (((below_alloc' (below_alloc' (Below.refl wr.heap.size wr) _) _).trans (hb7.mono (by simp only [World.size_alloc]; omega))).mono HB.out.size)); clear hb7)
      go_roundg (n - (j + 1))
      case measure => omega
      case rel => exact ⟨j + 1, by omega, by go_num, HB7⟩
    · have hjl : ¬ (j : Int) < (n : Int) := by omega
      go_wp2
      go_ret
      exact ⟨rfl, HB.out⟩
end
end Go.Proofs.YtlbnemnadegapaaGreatDoor.Ky
