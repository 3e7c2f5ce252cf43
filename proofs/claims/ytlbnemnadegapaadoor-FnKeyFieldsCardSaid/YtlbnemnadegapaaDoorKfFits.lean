/- What the laws on a key's fields let in: zzFits12, zzFits13, the closures, slices.ContainsFunc; the conditions are on lengths and on what lies in memory. -/
import Derived.Test.YtlbnemnadegapaaDoorKfMv
import Derived.Deep.LoopGhost
set_option linter.unusedVariables false
set_option linter.unusedSimpArgs false
namespace Go.Proofs.YtlbnemnadegapaaDoor.Kf
open Go.RowKit Go.Proofs.YtlbnemnadegapaaDoor.K Go.Proofs.YtlbnemnadegapaaDoor.Nm Go.Proofs.YtlbnemnadegapaaDoor.Ky
/-- A truth value of which something is known. -/
def BoolP (w : World) (p : Bool → Prop) (e : Ending) (w' : World) : Prop := (∃ r, e = .returned (.bool r) ∧ p r) ∧ Below w.heap.size w w'
def IxP (w : World) (ms : List FM) (e : Ending) (w' : World) : Prop := ∃ i : Int, e = .returned (.int .i64 i) ∧ (i < 0 → ∀ m ∈ ms, m.n ≤ 8) ∧ Below w.heap.size w w'
def fmV (m : FM) : Value := .agg #[.int .u8 m.kind, .int .u8 m.at_, .string m.id, .slice m.A m.n m.c]
section
variable {w w' : World}
set_option maxRecDepth 100000 in
theorem zzFits13_calls (w : World) (m : FM) : Calls Tryd.prog 27 #[.agg #[.int .u8 m.kind, .int .u8 m.at_, .string m.id, .slice m.A m.n m.c]] w (BoolP w fun _ => True) := by
  obtain ⟨mk, ma, mid, mA, mn, mc, mo⟩ := m
  simp only
  by_cases h1 : (2147483647 : Int) < (mid.size : Int)
  · go_enter Tryd.func27, Tryd.ntmps27
    go_wp2
    go_ret
    exact ⟨⟨_, rfl, trivial⟩, below_alloc' (Below.refl _ _) _⟩
  · by_cases h2 : (2147483647 : Int) < (mn : Int)
    · go_enter Tryd.func27, Tryd.ntmps27
      go_wp2
      go_ret
      exact ⟨⟨_, rfl, trivial⟩, below_alloc' (Below.refl _ _) _⟩
    · go_enter Tryd.func27, Tryd.ntmps27
      go_wp2
      go_ret
      exact ⟨⟨_, rfl, trivial⟩, below_alloc' (Below.refl _ _) _⟩
set_option maxRecDepth 100000 in
set_option maxHeartbeats 1000000 in
theorem zzFits12_calls (w : World) (A : Option Addr) (n c : Nat) (ms : List FM) (h : FML w A n ms) : Calls Tryd.prog 7 #[.slice A n c] w (BoolP w fun r => r = true → n ≤ 2147483647) := by
  by_cases hn : n ≤ 2147483647
  · have HLN := Lib.hid h.len
    have HM := Lib.hid h
    have HB0 := Lib.hid (Below.refl w.heap.size w)
    have hn' : ¬ (2147483647 : Int) < (n : Int) := by omega
    clear h
    go_enter Tryd.func7, Tryd.ntmps7
    go_wp2
    go_loopg [10] n (fun q u wr => ∃ j : Nat, q + j = n ∧ u = .int .i64 j ∧ Hid (Below w.heap.size w wr))
    case atStart => exact ⟨0, rfl, rfl, HB0⟩
    case round =>
      obtain ⟨j, hqj, rfl, HB⟩ := hrel
      by_cases hj : j < n
      · have hjl : j < ms.length := by have := HLN.out; omega
        have hji : (j : Int) < (n : Int) := by omega
        obtain ⟨ad, rfl, k0, k1, k2, k3⟩ := (HM.out.below HB.out (Nat.le_refl _)).at_ hjl
        obtain ⟨m, hm⟩ : ∃ m, m = ms[j] := ⟨_, rfl⟩
        rw [← hm] at k0 k1 k2 k3
        clear hm
        obtain ⟨wa, hwa⟩ : ∃ wa, wa = wr.alloc (.cells #[.int .u8 m.kind, .int .u8 m.at_, .string m.id, .slice m.A m.n m.c] 27) := ⟨_, rfl⟩
        have HA := Lib.hid (show Below wr.heap.size wr wa by rw [hwa]; exact below_alloc' (Below.refl _ _) _)
        have hF : Blk wa wr.heap.size 27 #[.int .u8 m.kind, .int .u8 m.at_, .string m.id, .slice m.A m.n m.c] := by rw [hwa]; exact Blk.new wr _ _
        have f0 : wa.cell? ⟨wr.heap.size, 0, none⟩ = some (.int .u8 m.kind) := by rw [hF.cell]; rfl
        have f1 : wa.cell? ⟨wr.heap.size, 1, none⟩ = some (.int .u8 m.at_) := by rw [hF.cell]; rfl
        have f2 : wa.cell? ⟨wr.heap.size, 2, none⟩ = some (.string m.id) := by rw [hF.cell]; rfl
        have f3 : wa.cell? ⟨wr.heap.size, 3, none⟩ = some (.slice m.A m.n m.c) := by rw [hF.cell]; rfl
        have HC := Lib.hid (zzFits13_calls wa m)
        clear hF
        go_upto_region 6 with (fail)
        rw [← hwa]
        clear hwa k0 k1 k2 k3
        go_upto_region 6 with (fail)
        go_wp2_with fail
        refine HC.out.mono ?_
        rintro e w5 ⟨⟨r, rfl, -⟩, hb5⟩
        have HB5 := Lib.hid (HB.out.trans ((HA.out.trans (hb5.mono HA.out.size)).mono HB.out.size))
        clear hb5
        cases r with
        | true =>
          go_wp2_with fail
          go_roundg (n - (j + 1))
          case measure => omega
          case rel => exact ⟨j + 1, by omega, by go_num, HB5⟩
        | false =>
          go_wp2_with fail
          go_ret
          exact ⟨⟨_, rfl, (by first | trivial | exact fun _ => hn | (intro _; omega) | (intro h; cases h))⟩, HB5.out⟩
      · have hlt : ¬ (j : Int) < (n : Int) := by omega
        go_wp2
        go_ret
        exact ⟨⟨_, rfl, (by first | trivial | exact fun _ => hn | (intro _; omega) | (intro h; cases h))⟩, HB.out⟩
  · have hn' : (2147483647 : Int) < (n : Int) := by omega
    go_enter Tryd.func7, Tryd.ntmps7
    go_wp2
    go_ret
    exact ⟨⟨_, rfl, (by first | trivial | (intro _; omega) | (intro h; cases h))⟩, Below.refl _ _⟩
set_option maxRecDepth 100000 in
theorem big_9 (w : World) (m : FM) : Calls Tryd.prog 9 #[.agg #[.int .u8 m.kind, .int .u8 m.at_, .string m.id, .slice m.A m.n m.c]] w (BoolP w fun r => r = false → m.n ≤ 8) := by
  obtain ⟨mk, ma, mid, mA, mn, mc, mo⟩ := m
  simp only
  by_cases h1 : (60 : Int) < (mid.size : Int)
  · go_enter Tryd.func9, Tryd.ntmps9
    go_wp2
    go_ret
    exact ⟨⟨_, rfl, (by first | trivial | (intro _; omega) | (intro h; cases h))⟩, below_alloc' (Below.refl _ _) _⟩
  · by_cases h2 : (8 : Int) < (mn : Int)
    · go_enter Tryd.func9, Tryd.ntmps9
      go_wp2
      go_ret
      exact ⟨⟨_, rfl, (by first | trivial | (intro _; omega) | (intro h; cases h))⟩, below_alloc' (Below.refl _ _) _⟩
    · go_enter Tryd.func9, Tryd.ntmps9
      go_wp2
      go_ret
      exact ⟨⟨_, rfl, (by first | trivial | (intro _; omega) | (intro h; cases h))⟩, below_alloc' (Below.refl _ _) _⟩
set_option maxRecDepth 100000 in
theorem big_34 (w : World) (m : FM) : Calls Tryd.prog 34 #[.agg #[.int .u8 m.kind, .int .u8 m.at_, .string m.id, .slice m.A m.n m.c]] w (BoolP w fun r => r = false → m.n ≤ 8) := by
  obtain ⟨mk, ma, mid, mA, mn, mc, mo⟩ := m
  simp only
  by_cases h1 : (60 : Int) < (mid.size : Int)
  · go_enter Tryd.func34, Tryd.ntmps34
    go_wp2
    go_ret
    exact ⟨⟨_, rfl, (by first | trivial | (intro _; omega) | (intro h; cases h))⟩, below_alloc' (Below.refl _ _) _⟩
  · by_cases h2 : (8 : Int) < (mn : Int)
    · go_enter Tryd.func34, Tryd.ntmps34
      go_wp2
      go_ret
      exact ⟨⟨_, rfl, (by first | trivial | (intro _; omega) | (intro h; cases h))⟩, below_alloc' (Below.refl _ _) _⟩
    · go_enter Tryd.func34, Tryd.ntmps34
      go_wp2
      go_ret
      exact ⟨⟨_, rfl, (by first | trivial | (intro _; omega) | (intro h; cases h))⟩, below_alloc' (Below.refl _ _) _⟩
set_option maxRecDepth 100000 in
set_option maxHeartbeats 1000000 in
theorem index_9 (w : World) (A : Option Addr) (n c : Nat) (ms : List FM) (h : FML w A n ms) (hn : n ≤ 2147483647) : Calls Tryd.prog 28 #[.slice A n c, .func (.func 9) #[] #[]] w (IxP w ms) := by
  have HLN := Lib.hid h.len
  have HM := Lib.hid h
  have HB0 := Lib.hid (Below.refl w.heap.size w)
  clear h
  go_enter Tryd.func28, Tryd.ntmps28
  go_wp2
  go_loopg [8] n (fun q u wr => ∃ j : Nat, q + j = n ∧ u = .int .i64 j ∧ Hid (Below w.heap.size w wr) ∧ Hid (∀ m ∈ ms.take j, m.n ≤ 8))
  case atStart => exact ⟨0, rfl, rfl, HB0, Lib.hid (by simp)⟩
  case round =>
    obtain ⟨j, hqj, rfl, HB, HP⟩ := hrel
    by_cases hj : j < n
    · have hjl : j < ms.length := by have := HLN.out; omega
      obtain ⟨ad, rfl, k0, k1, k2, k3⟩ := (HM.out.below HB.out (Nat.le_refl _)).at_ hjl
      obtain ⟨m, hm⟩ : ∃ m, m = ms[j] := ⟨_, rfl⟩
      rw [← hm] at k0 k1 k2 k3
      have HMM := Lib.hid hm
      clear hm
      have HC := Lib.hid (big_9 wr m)
      go_wp2_with fail
      refine HC.out.mono ?_
      rintro e w5 ⟨⟨r, rfl, hr⟩, hb5⟩
      have HB5 := Lib.hid (HB.out.trans (hb5.mono HB.out.size))
      have HR := Lib.hid hr
      clear hb5 hr
      cases r with
      | false =>
        go_wp2_with fail
        go_roundg (n - (j + 1))
        case measure => omega
        case rel =>
          refine ⟨j + 1, by omega, by go_num, HB5, Lib.hid fun z hz => ?_⟩
          rw [List.take_succ_eq_append_getElem hjl] at hz
          rcases List.mem_append.1 hz with hz | hz
          · exact HP.out z hz
          · rw [List.mem_singleton.1 hz, ← HMM.out]; exact HR.out (by first | rfl | trivial)
      | true =>
        go_wp2_with fail
        go_ret
        exact ⟨_, rfl, fun h => absurd h (by omega), HB5.out⟩
    · have hlt : ¬ (j : Int) < (n : Int) := by omega
      go_wp2
      go_ret
      refine ⟨_, rfl, fun _ m hm => HP.out m ?_, HB.out⟩
      rw [List.take_of_length_le (by have := HLN.out; omega)]
      exact hm
set_option maxRecDepth 100000 in
theorem contains_9 (w : World) (A : Option Addr) (n c : Nat) (ms : List FM) (h : FML w A n ms) (hn : n ≤ 2147483647) : Calls Tryd.prog 8 #[.slice A n c, .func (.func 9) #[] #[]] w (BoolP w fun r => r = false → ∀ m ∈ ms, m.n ≤ 8) := by
  have HI := Lib.hid (index_9 w A n c ms h hn)
  clear h
  go_enter Tryd.func8, Tryd.ntmps8
  go_wp2_with fail
  refine HI.out.mono ?_
  rintro e w1 ⟨i, rfl, hi, hb⟩
  have HH := Lib.hid (And.intro hi hb)
  clear hi hb
  go_wp2
  go_ret
  exact ⟨⟨_, rfl, fun h => HH.out.1 (by rw [decide_eq_false_iff_not] at h; omega)⟩, HH.out.2⟩
set_option maxRecDepth 100000 in
set_option maxHeartbeats 1000000 in
theorem index_34 (w : World) (A : Option Addr) (n c : Nat) (ms : List FM) (h : FML w A n ms) (hn : n ≤ 2147483647) : Calls Tryd.prog 28 #[.slice A n c, .func (.func 34) #[] #[]] w (IxP w ms) := by
  have HLN := Lib.hid h.len
  have HM := Lib.hid h
  have HB0 := Lib.hid (Below.refl w.heap.size w)
  clear h
  go_enter Tryd.func28, Tryd.ntmps28
  go_wp2
  go_loopg [8] n (fun q u wr => ∃ j : Nat, q + j = n ∧ u = .int .i64 j ∧ Hid (Below w.heap.size w wr) ∧ Hid (∀ m ∈ ms.take j, m.n ≤ 8))
  case atStart => exact ⟨0, rfl, rfl, HB0, Lib.hid (by simp)⟩
  case round =>
    obtain ⟨j, hqj, rfl, HB, HP⟩ := hrel
    by_cases hj : j < n
    · have hjl : j < ms.length := by have := HLN.out; omega
      obtain ⟨ad, rfl, k0, k1, k2, k3⟩ := (HM.out.below HB.out (Nat.le_refl _)).at_ hjl
      obtain ⟨m, hm⟩ : ∃ m, m = ms[j] := ⟨_, rfl⟩
      rw [← hm] at k0 k1 k2 k3
      have HMM := Lib.hid hm
      clear hm
      have HC := Lib.hid (big_34 wr m)
      go_wp2_with fail
      refine HC.out.mono ?_
      rintro e w5 ⟨⟨r, rfl, hr⟩, hb5⟩
      have HB5 := Lib.hid (HB.out.trans (hb5.mono HB.out.size))
      have HR := Lib.hid hr
      clear hb5 hr
      cases r with
      | false =>
        go_wp2_with fail
        go_roundg (n - (j + 1))
        case measure => omega
        case rel =>
          refine ⟨j + 1, by omega, by go_num, HB5, Lib.hid fun z hz => ?_⟩
          rw [List.take_succ_eq_append_getElem hjl] at hz
          rcases List.mem_append.1 hz with hz | hz
          · exact HP.out z hz
          · rw [List.mem_singleton.1 hz, ← HMM.out]; exact HR.out (by first | rfl | trivial)
      | true =>
        go_wp2_with fail
        go_ret
        exact ⟨_, rfl, fun h => absurd h (by omega), HB5.out⟩
    · have hlt : ¬ (j : Int) < (n : Int) := by omega
      go_wp2
      go_ret
      refine ⟨_, rfl, fun _ m hm => HP.out m ?_, HB.out⟩
      rw [List.take_of_length_le (by have := HLN.out; omega)]
      exact hm
set_option maxRecDepth 100000 in
theorem contains_34 (w : World) (A : Option Addr) (n c : Nat) (ms : List FM) (h : FML w A n ms) (hn : n ≤ 2147483647) : Calls Tryd.prog 8 #[.slice A n c, .func (.func 34) #[] #[]] w (BoolP w fun r => r = false → ∀ m ∈ ms, m.n ≤ 8) := by
  have HI := Lib.hid (index_34 w A n c ms h hn)
  clear h
  go_enter Tryd.func8, Tryd.ntmps8
  go_wp2_with fail
  refine HI.out.mono ?_
  rintro e w1 ⟨i, rfl, hi, hb⟩
  have HH := Lib.hid (And.intro hi hb)
  clear hi hb
  go_wp2
  go_ret
  exact ⟨⟨_, rfl, fun h => HH.out.1 (by rw [decide_eq_false_iff_not] at h; omega)⟩, HH.out.2⟩
end
end Go.Proofs.YtlbnemnadegapaaDoor.Kf
