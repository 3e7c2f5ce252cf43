/- slices.Contains over texts: just what is in the list; no condition but a length that can be held. -/
import Derived.Test.YtenneobgjalfhaaNmList
import Derived.Deep.LoopGhost
set_option linter.unusedVariables false
set_option linter.unusedSimpArgs false
namespace Go.Proofs.Ytenneobgjalfhaa.So
open Go.RowKit Go.Proofs.Ytenneobgjalfhaa.K Go.Proofs.Ytenneobgjalfhaa.Nm
theorem str_ne {x y : ByteArray} (h : x ≠ y) : (x.toList == y.toList) = false := by
  rw [beq_eq_false_iff_ne]
  intro e
  rw [ByteArray.toList_eq, ByteArray.toList_eq] at e
  exact h (Go.WideShapes.bytes_inj e)
theorem NL.len {w : World} {A : Option Addr} {n : Nat} {l : List ByteArray} (h : NL w A n l) : n = l.length := by have := h.1; simp at this; omega
theorem NL.at_ {w : World} {A : Option Addr} {n k : Nat} {l : List ByteArray} (h : NL w A n l) (hk : k < l.length) : ∃ ad, A = some ad ∧ w.cell? (ad.add k) = some (.string l[k]) := by
  have hl := h.len
  obtain ⟨ad, u, e, hu, hc⟩ := Reads.at_ h (by omega : k < n)
  rw [List.getElem?_map, List.getElem?_eq_getElem hk] at hu
  injection hu with hu
  subst hu
  exact ⟨ad, e, hc⟩
set_option maxRecDepth 100000 in
set_option maxHeartbeats 1000000 in
theorem NIndex_calls (w : World) (A : Option Addr) (n c : Nat) (l : List ByteArray) (x : ByteArray) (h : NL w A n l) (hn : n ≤ 100000) :
    Calls Try.prog 31 #[.slice A n c, .string x] w fun e w' => (∃ i : Int, e = .returned (.int .i64 i) ∧ (0 ≤ i ↔ x ∈ l)) ∧ w = w' := by
  have HLN := Lib.hid h.len
  go_enter Try.func31, Try.ntmps31
  go_wp2
  go_loopg [8] n (fun q u wr => ∃ j : Nat, q + j = n ∧ u = .int .i64 j ∧ wr = w ∧ Hid (∀ y ∈ l.take j, y ≠ x))
  case atStart => exact ⟨0, rfl, rfl, rfl, Lib.hid (by simp)⟩
  case round =>
    obtain ⟨j, hqj, rfl, hw, HP⟩ := hrel
    subst hw
    by_cases hj : j < n
    · have hjl : j < l.length := by have := HLN.out; omega
      obtain ⟨ad, rfl, hc1⟩ := h.at_ hjl
      obtain ⟨y, hy⟩ : ∃ y, y = l[j] := ⟨_, rfl⟩
      rw [← hy] at hc1
      have HY := Lib.hid hy
      clear hy
      by_cases hxe : x = y
      · subst hxe
        go_wp2
        go_ret
        exact ⟨⟨_, rfl, ⟨fun _ => by rw [HY.out]; exact List.getElem_mem _, fun _ => by omega⟩⟩, rfl⟩
      · have hxy := str_ne hxe
        have HXE := Lib.hid hxe
        clear hxe
        go_wp2
        go_roundg (n - (j + 1))
        case measure => omega
        case rel =>
          refine ⟨j + 1, by omega, by go_num, rfl, Lib.hid ?_⟩
          intro z hz
          rw [List.take_succ_eq_append_getElem hjl] at hz
          rcases List.mem_append.1 hz with hz | hz
          · exact HP.out z hz
          · rw [List.mem_singleton.1 hz, ← HY.out]
            exact fun e => HXE.out e.symm
    · obtain rfl : j = n := by omega
      go_wp2
      go_ret
      refine ⟨⟨_, rfl, ⟨fun h => absurd h (by decide), fun hm => ?_⟩⟩, rfl⟩
      have := HP.out x (by rw [List.take_of_length_le (by have := HLN.out; omega)]; exact hm)
      exact absurd rfl this
theorem NContains_calls (w : World) (A : Option Addr) (n c : Nat) (l : List ByteArray) (x : ByteArray) (h : NL w A n l) (hn : n ≤ 100000) :
    Calls Try.prog 8 #[.slice A n c, .string x] w fun e w' => (∃ r : Bool, e = .returned (.bool r) ∧ (r = true ↔ x ∈ l)) ∧ w = w' := by
  have HI := Lib.hid (NIndex_calls w A n c l x h hn)
  clear h
  go_enter Try.func8, Try.ntmps8
  go_wp2_with fail
  refine HI.out.mono ?_
  rintro e w1 ⟨⟨i, rfl, hi⟩, rfl⟩
  have HH := Lib.hid hi
  clear hi
  go_wp2
  go_ret
  exact ⟨⟨_, rfl, by rw [decide_eq_true_iff]; exact HH.out⟩, rfl⟩
end Go.Proofs.Ytenneobgjalfhaa.So
