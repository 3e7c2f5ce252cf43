/- Walks of zzFits1, zzFits2, mapShort, claimShort, claimList, slices.Contains over strings: what the laws need of them; no conditions but what can be held. -/
import Derived.Test.YtlahgmfpdfblkaaGreatClAud
set_option linter.unusedVariables false
set_option linter.unusedSimpArgs false
namespace Go.Proofs.YtlahgmfpdfblkaaGreat.Cl
open Go.RowKit Go.Proofs.YtlahgmfpdfblkaaGreat.K
def SomeB (w : World) (p : Prop) (e : Ending) (w' : World) : Prop := ∃ r, e = .returned (.bool r) ∧ (r = true → p) ∧ Below w.heap.size w w'
set_option maxRecDepth 100000 in
set_option maxHeartbeats 1000000 in
theorem zzFits2_calls (w : World) (A : Option Addr) (n c : Nat) (l : List ByteArray) (h : SL w A n l) :
    Calls Tryz.prog 12 #[.slice A n c] w (SomeB w (n ≤ 2147483647)) := by
  have HLN := Lib.hid h.len
  by_cases hb : 2147483647 < n
  · have hbi : (2147483647 : Int) < (n : Int) := by omega
    go_enter Tryz.func12, Tryz.ntmps12
    go_wp2
    go_ret
    exact ⟨false, rfl, (fun h => by cases h), Below.refl _ _⟩
  have hbi : ¬ (2147483647 : Int) < (n : Int) := by omega
  go_enter Tryz.func12, Tryz.ntmps12
  go_wp2
  go_loopg [10] n (fun q u wr => ∃ j : Nat, q + j = n ∧ u = .int .i64 j ∧ wr = w)
  case atStart => exact ⟨0, rfl, rfl, rfl⟩
  case round =>
    obtain ⟨j, hqj, rfl, hw⟩ := hrel
    subst hw
    by_cases hj : j < n
    · have hjl : j < l.length := by have := HLN.out; omega
      obtain ⟨ad, rfl, hc1⟩ := h.at_ hjl
      obtain ⟨x, hx⟩ : ∃ x, x = l[j] := ⟨_, rfl⟩
      rw [← hx] at hc1
      clear hx
      by_cases hxs : 2147483647 < x.size
      · have hxi : (2147483647 : Int) < (x.size : Int) := by omega
        go_wp2
        go_ret
        exact ⟨false, rfl, (fun h => by cases h), Below.refl _ _⟩
      · have hxi : ¬ (2147483647 : Int) < (x.size : Int) := by omega
        go_wp2
        go_roundg (n - (j + 1))
        case measure => omega
        case rel => exact ⟨j + 1, by omega, by go_num, rfl⟩
    · obtain rfl : j = n := by omega
      go_wp2
      go_ret
      exact ⟨true, rfl, (fun _ => by omega), Below.refl _ _⟩
set_option maxRecDepth 100000 in
set_option maxHeartbeats 1000000 in
theorem SIndex_calls (w : World) (A : Option Addr) (n c : Nat) (l : List ByteArray) (x : ByteArray) (h : SL w A n l) (hn : n ≤ 100000) :
    Calls Tryz.prog 23 #[.slice A n c, .string x] w fun e w' => (∃ i : Int, e = .returned (.int .i64 i)) ∧ w = w' := by
  have HLN := Lib.hid h.len
  go_enter Tryz.func23, Tryz.ntmps23
  go_wp2
  go_loopg [8] n (fun q u wr => ∃ j : Nat, q + j = n ∧ u = .int .i64 j ∧ wr = w)
  case atStart => exact ⟨0, rfl, rfl, rfl⟩
  case round =>
    obtain ⟨j, hqj, rfl, hw⟩ := hrel
    subst hw
    by_cases hj : j < n
    · have hjl : j < l.length := by have := HLN.out; omega
      obtain ⟨ad, rfl, hc1⟩ := h.at_ hjl
      obtain ⟨y, hy⟩ : ∃ y, y = l[j] := ⟨_, rfl⟩
      rw [← hy] at hc1
      clear hy
      cases hxy : (x.toList == y.toList) with
      | true =>
        go_wp2
        go_ret
        exact ⟨⟨_, rfl⟩, rfl⟩
      | false =>
        go_wp2
        go_roundg (n - (j + 1))
        case measure => omega
        case rel => exact ⟨j + 1, by omega, by go_num, rfl⟩
    · obtain rfl : j = n := by omega
      go_wp2
      go_ret
      exact ⟨⟨_, rfl⟩, rfl⟩
theorem SContains_calls (w : World) (A : Option Addr) (n c : Nat) (l : List ByteArray) (x : ByteArray) (h : SL w A n l) (hn : n ≤ 100000) :
    Calls Tryz.prog 17 #[.slice A n c, .string x] w fun e w' => (∃ r : Bool, e = .returned (.bool r)) ∧ w = w' := by
  have HI := Lib.hid (SIndex_calls w A n c l x h hn)
  clear h
  go_enter Tryz.func17, Tryz.ntmps17
  go_wp2_with fail
  refine HI.out.mono ?_
  rintro e w1 ⟨⟨i, rfl⟩, rfl⟩
  obtain ⟨r, hr⟩ : ∃ r, r = decide ((0 : Int) ≤ i) := ⟨_, rfl⟩
  go_wp2
  go_ret
  exact ⟨⟨_, rfl⟩, rfl⟩
end Go.Proofs.YtlahgmfpdfblkaaGreat.Cl
