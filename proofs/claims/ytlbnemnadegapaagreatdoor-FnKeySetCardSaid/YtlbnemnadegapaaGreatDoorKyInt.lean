/- slices.Index and slices.Equal over ints: exactly what they are; no condition but a length that can be held. -/
import Derived.Test.YtlbnemnadegapaaGreatDoorKyPlain
import Derived.Deep.LoopGhost
set_option linter.unusedVariables false
set_option linter.unusedSimpArgs false
namespace Go.Proofs.YtlbnemnadegapaaGreatDoor.Ky
open Go.RowKit Go.Proofs.YtlbnemnadegapaaGreatDoor.K Go.Proofs.YtlbnemnadegapaaGreatDoor.Nm
theorem below_drewN {B : Nat} {w w' : World} (h : Below B w w') (n : Nat) : Below B w (w'.drewN n) := ⟨h.os, h.tape, h.output, h.size, h.block⟩
/-- Ints in memory. -/
def IL (w : World) (A : Option Addr) (n : Nat) (l : List Int) : Prop := Reads w 1 A n (l.map (Value.int .i64))
section
variable {w w' : World} {A : Option Addr} {n c : Nat} {l : List Int}
theorem IL.len (h : IL w A n l) : n = l.length := by have := h.1; simp at this; omega
theorem IL.at_ {k : Nat} (h : IL w A n l) (hk : k < l.length) : ∃ ad, A = some ad ∧ w.cell? (ad.add k) = some (.int .i64 l[k]) := by
  have hl := h.len
  obtain ⟨ad, u, e, hu, hc⟩ := Reads.at_ h (by omega : k < n)
  rw [List.getElem?_map, List.getElem?_eq_getElem hk] at hu
  injection hu with hu
  subst hu
  exact ⟨ad, e, hc⟩
theorem IL.below (h : IL w A n l) (hb : Below w.heap.size w w') : IL w' A n l := Reads.below h hb (Nat.le_refl _)
theorem ixI_at {v : Int} {j : Nat} (hj : j < l.length) (h : l[j] = v) (hb : ∀ y ∈ l.take j, y ≠ v) : ixI l v = j := by
  unfold ixI
  rw [List.findIdx?_eq_some_iff_getElem.2 ⟨hj, by simpa using h, fun i hi => by
    have : l[i]'(by omega) ∈ l.take j := by
      rw [List.mem_take_iff_getElem]
      exact ⟨i, by omega, rfl⟩
    simpa using hb _ this⟩]
set_option maxRecDepth 100000 in
set_option maxHeartbeats 1000000 in
theorem IndexI_calls (h : IL w A n l) (hn : n ≤ 100000) (v : Int) :
    Calls Tryz.prog 16 #[.slice A n c, .int .i64 v] w fun e w' => e = .returned (.int .i64 (ixI l v)) ∧ w = w' := by
  have HLN := Lib.hid h.len
  go_enter Tryz.func16, Tryz.ntmps16
  go_wp2
  go_loopg [8] n (fun q u wr => ∃ j : Nat, q + j = n ∧ u = .int .i64 j ∧ wr = w ∧ Hid (∀ y ∈ l.take j, y ≠ v))
  case atStart => exact ⟨0, rfl, rfl, rfl, Lib.hid (by simp)⟩
  case round =>
    obtain ⟨j, hqj, rfl, hw, HP⟩ := hrel
    subst hw
    by_cases hj : j < n
    · have hjl : j < l.length := by have := HLN.out; omega
      obtain ⟨ad, rfl, hc1⟩ := h.at_ hjl
      obtain ⟨y, hy⟩ : ∃ y, y = l[j] := ⟨_, rfl⟩
      rw [← hy] at hc1
      have HY := Lib.hid hy
      clear hy
      by_cases hxe : v = y
      · have HE := Lib.hid hxe
        subst hxe
        go_wp2
        go_ret
        exact ⟨(by rw [ixI_at hjl HY.out.symm HP.out]; rfl), rfl⟩
      · have hxy : (v == y) = false := by simpa using hxe
        have HXE := Lib.hid hxe
        go_wp2
        go_roundg (n - (j + 1))
        case measure => omega
        case rel =>
          refine ⟨j + 1, by omega, by go_num, rfl, Lib.hid ?_⟩
          intro z hz
          rw [List.take_succ_eq_append_getElem hjl] at hz
          rcases List.mem_append.1 hz with hz | hz
          · exact HP.out z hz
          · rw [List.mem_singleton.1 hz, ← HY.out]
            exact fun e => HXE.out e.symm
    · obtain rfl : j = n := by omega
      go_wp2
      go_ret
      have hm : v ∉ l := fun hm => absurd rfl (HP.out v (by rw [List.take_of_length_le (by have := HLN.out; omega)]; exact hm))
      exact ⟨(by rw [ixI_neg hm]; rfl), rfl⟩
set_option maxRecDepth 100000 in
set_option maxHeartbeats 1000000 in
theorem EqualI_calls {A2 : Option Addr} {n2 c2 : Nat} {l2 : List Int} (h : IL w A n l) (h2 : IL w A2 n2 l2) (hn : n ≤ 100000) :
    Calls Tryz.prog 25 #[.slice A n c, .slice A2 n2 c2] w fun e w' => e = .returned (.bool (decide (l = l2))) ∧ Below w.heap.size w w' := by
  have HLN := Lib.hid (And.intro h.len h2.len)
  have HB0 := Lib.hid (Below.refl w.heap.size w)
  by_cases hnn : n = n2
  · subst hnn
    have hll : l.length = l2.length := by have := HLN.out.1; have := HLN.out.2; omega
    have hnq : ((n : Int) == (n : Int)) = true := by simp
    go_enter Tryz.func25, Tryz.ntmps25
    go_wp2
    go_loopg [13] n (fun q u wr => ∃ j : Nat, q + j = n ∧ u = .int .i64 j ∧ Hid (Below w.heap.size w wr) ∧ Hid (l.take j = l2.take j))
    case atStart => exact ⟨0, rfl, rfl, HB0, Lib.hid (by simp)⟩
    case round =>
      obtain ⟨j, hqj, rfl, HB, HP⟩ := hrel
      by_cases hj : j < n
      · have hjl : j < l.length := by have := HLN.out.1; omega
        have hjl2 : j < l2.length := by omega
        obtain ⟨ad, rfl, hc1⟩ := IL.at_ (show IL wr A n l from Reads.below h HB.out (Nat.le_refl _)) hjl
        obtain ⟨ad2, rfl, hc2⟩ := IL.at_ (show IL wr A2 n l2 from Reads.below h2 HB.out (Nat.le_refl _)) hjl2
        obtain ⟨y, hy⟩ : ∃ y, y = l[j] := ⟨_, rfl⟩
        obtain ⟨z, hz⟩ : ∃ z, z = l2[j] := ⟨_, rfl⟩
        rw [← hy] at hc1
        rw [← hz] at hc2
        have HY := Lib.hid (And.intro hy hz)
        clear hy hz h h2
        by_cases hxe : y = z
        · have HE := Lib.hid hxe
          subst hxe
          have hxy : (y == y) = true := by simp
          go_wp2_with fail
          go_quiet (fail)
          go_wp2
          go_roundg (n - (j + 1))
          case measure => omega
          case rel =>
            refine ⟨j + 1, by omega, by go_num, Lib.hid (below_drewN HB.out _), Lib.hid ?_⟩
            rw [List.take_succ_eq_append_getElem hjl, List.take_succ_eq_append_getElem hjl2, HP.out, ← HY.out.1, ← HY.out.2]
        · have hxy : (y == z) = false := by simpa using hxe
          have HXE := Lib.hid hxe
          go_wp2_with fail
          go_quiet (fail)
          go_wp2
          go_ret
          have hne : l ≠ l2 := fun e => HXE.out (by rw [HY.out.1, HY.out.2]; simp [e])
          exact ⟨(by rw [decide_eq_false hne]; rfl), below_drewN HB.out _⟩
      · have hlt : ¬ (j : Int) < (n : Int) := by omega
        go_wp2
        go_ret
        have he := HP.out
        rw [List.take_of_length_le (by have := HLN.out.1; omega), List.take_of_length_le (by have := HLN.out.2; omega)] at he
        exact ⟨(by rw [decide_eq_true he]; rfl), HB.out⟩
  · have hnq : ((n : Int) == (n2 : Int)) = false := by rw [beq_eq_false_iff_ne]; intro e; exact hnn (by omega)
    have hne : l ≠ l2 := fun e => hnn (by have := HLN.out.1; have := HLN.out.2; rw [e] at *; omega)
    have HNE := Lib.hid hne
    clear hne
    go_enter Tryz.func25, Tryz.ntmps25
    go_wp2
    go_ret
    exact ⟨(by rw [decide_eq_false HNE.out]; rfl), Below.refl _ _⟩
end
end Go.Proofs.YtlbnemnadegapaaGreatDoor.Ky
