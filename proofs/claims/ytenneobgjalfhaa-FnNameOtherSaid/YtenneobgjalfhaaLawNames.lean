/- The laws FnNamesStandard and FnNameOther; no condition. Printed by gen_lawnm.py. -/
import Derived.Test.YtenneobgjalfhaaNmSym
set_option linter.unusedVariables false
set_option linter.unusedSimpArgs false
namespace Go.Proofs.Ytenneobgjalfhaa.So
open Go.RowKit Go.Proofs.Ytenneobgjalfhaa.K Go.Proofs.Ytenneobgjalfhaa.Nm
theorem NameStandard_calls (w : World) (k : Nat) (hk : k < 6) : Calls Try.prog 5 #[.int .i64 k] w (StdPost k w) := by
  match k, hk with
  | 0, _ => exact NameStandard_0 w
  | 1, _ => exact NameStandard_1 w
  | 2, _ => exact NameStandard_2 w
  | 3, _ => exact NameStandard_3 w
  | 4, _ => exact NameStandard_4 w
  | 5, _ => exact NameStandard_5 w
theorem stds_len (k : Nat) : 1 ≤ (stds k).length ∧ (stds k).length ≤ 17 := by
  match k with
  | 0 => decide
  | 1 => decide
  | 2 => decide
  | 3 => decide
  | 4 => decide
  | k + 5 => exact ⟨show 1 ≤ 4 by decide, show 4 ≤ 17 by decide⟩
theorem stds_in (k : Nat) (hk : k < 6) : ∀ s ∈ stds k, ∃ p ∈ tabs k, p.1 = s := by
  match k, hk with
  | 0, _ => decide
  | 1, _ => decide
  | 2, _ => decide
  | 3, _ => decide
  | 4, _ => decide
  | 5, _ => decide
theorem stds_short (k : Nat) (hk : k < 6) : ∀ s ∈ stds k, 2 ≤ s.data.toList.length ∧ s.data.toList.length ≤ 40 := by
  match k, hk with
  | 0, _ => decide
  | 1, _ => decide
  | 2, _ => decide
  | 3, _ => decide
  | 4, _ => decide
  | 5, _ => decide
theorem Sym_any0 : ∀ s ∈ stds 0, ∃ b : Bool, (∀ p ∈ tabs 0, p.1 = s → p.2.2 = b) ∧ ∀ w, Calls Try.prog 10 #[.int .i64 0, .string s] w fun e w' => e = .returned (.bool b) ∧ w = w' := by
  intro s hs
  simp only [stds, List.mem_cons, List.not_mem_nil, or_false] at hs
  rcases hs with rfl | rfl | rfl | rfl | rfl | rfl | rfl | rfl | rfl | rfl | rfl | rfl | rfl | rfl
  · exact ⟨true, by decide, Sym_0_0⟩
  · exact ⟨true, by decide, Sym_0_1⟩
  · exact ⟨true, by decide, Sym_0_2⟩
  · exact ⟨false, by decide, Sym_0_3⟩
  · exact ⟨false, by decide, Sym_0_4⟩
  · exact ⟨false, by decide, Sym_0_5⟩
  · exact ⟨false, by decide, Sym_0_6⟩
  · exact ⟨false, by decide, Sym_0_7⟩
  · exact ⟨false, by decide, Sym_0_8⟩
  · exact ⟨false, by decide, Sym_0_9⟩
  · exact ⟨false, by decide, Sym_0_10⟩
  · exact ⟨false, by decide, Sym_0_11⟩
  · exact ⟨false, by decide, Sym_0_12⟩
  · exact ⟨false, by decide, Sym_0_13⟩
theorem Sym_any1 : ∀ s ∈ stds 1, ∃ b : Bool, (∀ p ∈ tabs 1, p.1 = s → p.2.2 = b) ∧ ∀ w, Calls Try.prog 10 #[.int .i64 1, .string s] w fun e w' => e = .returned (.bool b) ∧ w = w' := by
  intro s hs
  simp only [stds, List.mem_cons, List.not_mem_nil, or_false] at hs
  rcases hs with rfl | rfl | rfl | rfl | rfl | rfl | rfl | rfl | rfl | rfl | rfl | rfl | rfl | rfl | rfl | rfl | rfl
  · exact ⟨false, by decide, Sym_1_0⟩
  · exact ⟨false, by decide, Sym_1_1⟩
  · exact ⟨false, by decide, Sym_1_2⟩
  · exact ⟨true, by decide, Sym_1_3⟩
  · exact ⟨true, by decide, Sym_1_4⟩
  · exact ⟨true, by decide, Sym_1_5⟩
  · exact ⟨true, by decide, Sym_1_6⟩
  · exact ⟨false, by decide, Sym_1_7⟩
  · exact ⟨false, by decide, Sym_1_8⟩
  · exact ⟨false, by decide, Sym_1_9⟩
  · exact ⟨false, by decide, Sym_1_10⟩
  · exact ⟨true, by decide, Sym_1_11⟩
  · exact ⟨true, by decide, Sym_1_12⟩
  · exact ⟨true, by decide, Sym_1_13⟩
  · exact ⟨true, by decide, Sym_1_14⟩
  · exact ⟨true, by decide, Sym_1_15⟩
  · exact ⟨true, by decide, Sym_1_16⟩
theorem Sym_any (k : Nat) (hk : k < 2) (s : ByteArray) (hs : s ∈ stds k) (d y : Bool) (hp : (s, d, y) ∈ tabs k) (w : World) : Calls Try.prog 10 #[.int .i64 k, .string s] w fun e w' => e = .returned (.bool y) ∧ w = w' := by
  match k, hk with
  | 0, _ =>
    obtain ⟨b, h1, h2⟩ := Sym_any0 s hs
    rw [show y = b from h1 _ hp rfl]; exact h2 w
  | 1, _ =>
    obtain ⟨b, h1, h2⟩ := Sym_any1 s hs
    rw [show y = b from h1 _ hp rfl]; exact h2 w
set_option maxRecDepth 100000 in
set_option maxHeartbeats 4000000 in
theorem FnNamesStandard_calls (w : World) (a t : Nat) (ha : a < 256) (ht : t < 256) :
    Calls Try.prog 4 #[.int .u8 a, .int .u8 t] w fun e w' => e = .returned (.bool true) ∧ Below w.heap.size w w' := by
  obtain ⟨k, hk⟩ : ∃ k, k = a % 6 := ⟨_, rfl⟩
  have hk6 : k < 6 := by omega
  have h1 : (a : Int).tmod 6 = (k : Int) := by rw [Int.tmod_eq_emod_of_nonneg (by omega)]; omega
  have h2 : (a : Int) % 6 = (k : Int) := by omega
  have HS := Lib.hid (NameStandard_calls w k hk6)
  clear hk
  go_enter Try.func4, Try.ntmps4
  go_wp2_with fail
  refine HS.out.mono ?_
  rintro e w1 ⟨ad, rfl, hB1, hcl⟩
  obtain ⟨hl1, hl17⟩ := stds_len k
  obtain ⟨n, hn⟩ : ∃ n, n = (stds k).length := ⟨_, rfl⟩
  obtain ⟨j, hj⟩ : ∃ j, j = t % n := ⟨_, rfl⟩
  have hn1 : 1 ≤ n := by omega
  have hn17 : n ≤ 17 := by omega
  have hjn : j < n := by rw [hj]; exact Nat.mod_lt _ (by omega)
  have hjl : j < (stds k).length := by omega
  have hc := hcl j hjl
  obtain ⟨s, hs⟩ : ∃ s, s = (stds k)[j] := ⟨_, rfl⟩
  rw [← hs] at hc
  have hmem : s ∈ stds k := by rw [hs]; exact List.getElem_mem _
  have h3 : (t : Int).tmod (n : Int) = (j : Int) := by rw [Int.tmod_eq_emod_of_nonneg (by omega), hj]; rfl
  have h4 : (t : Int) % (n : Int) = (j : Int) := by rw [hj]; rfl
  have hjni : (j : Int) < (n : Int) := by omega
  have hn0 : ((n : Int) == 0) = false := by simp; omega
  have hn0' : ¬ ((n : Int) = 0) := by omega
  rw [← hn]
  have HB1 := Lib.hid hB1
  have HM := Lib.hid hmem
  have HF := Lib.hid (NameFound_calls w1 s k hk6)
  clear hB1 hcl hl1 hl17 hn hj hjl hs hmem HS h1 h2
  go_wp2_with fail
  refine HF.out.mono ?_
  rintro e w2 ⟨hB2, t', d, y, ok, htold, rfl⟩
  obtain ⟨q, hq, hqe⟩ := stds_in k hk6 s HM.out
  rcases htold with ⟨rfl, rfl, hp⟩ | ⟨_, _, _, _, hno⟩
  · have HP := Lib.hid hp
    have HB2 := Lib.hid (below_then HB1.out hB2)
    have HL := Lib.hid (NameList_calls w2 k hk6)
    have HQ := Lib.hid (And.intro hq hqe)
    clear hp hB2 hq hqe HF hc h3 h4
    go_wp2_with fail
    refine HL.out.mono ?_
    rintro e w3 ⟨A, m, c, l, rfl, hB3, hm20, hNL, hl⟩
    have HB3 := Lib.hid (below_then HB2.out hB3)
    have HIN := Lib.hid (show t' ∈ l from (hl t').2 ⟨q, HQ.out.1, HQ.out.2⟩)
    have HC := Lib.hid (NContains_calls w3 A m c l t' hNL (by omega))
    clear hB3 hNL hl HL hm20
    go_wp2_with fail
    refine HC.out.mono ?_
    rintro e w4 ⟨⟨r, rfl, hr⟩, rfl⟩
    obtain rfl : r = true := hr.2 HIN.out
    clear hr HC
    by_cases hk1 : 1 < k
    · have hki : (1 : Int) < (k : Int) := by omega
      have hkb : decide ((k : Int) > 1) = true := decide_eq_true hki
      have HV := Lib.hid (namesLive_calls w3)
      go_wp2_with fail
      refine HV.out.mono ?_
      rintro e w5 ⟨rfl, hB5⟩
      have HB5 := Lib.hid (below_then HB3.out hB5)
      clear hB5 HV
      go_wp2
      go_ret
      exact ⟨rfl, HB5.out⟩
    · have hki : ¬ (1 : Int) < (k : Int) := by omega
      have hkb : decide ((k : Int) > 1) = false := decide_eq_false hki
      have HY := Lib.hid (Sym_any k (by omega) t' HM.out d y HP.out w3)
      have HV := Lib.hid (namesLive_calls w3)
      go_wp2_with fail
      refine HY.out.mono ?_
      rintro e w5 ⟨rfl, rfl⟩
      go_wp2_with fail
      refine HV.out.mono ?_
      rintro e w5 ⟨rfl, hB5⟩
      have HB5 := Lib.hid (below_then HB3.out hB5)
      clear hB5 HV HY
      go_wp2
      go_ret
      exact ⟨rfl, HB5.out⟩
  · exact absurd hqe (hno q hq)
end Go.Proofs.Ytenneobgjalfhaa.So
