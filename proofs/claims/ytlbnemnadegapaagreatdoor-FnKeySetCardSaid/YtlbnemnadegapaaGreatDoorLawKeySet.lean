/- The walk of the law FnKeySet; no condition on the IDs and the moves. -/
import Derived.Test.YtlbnemnadegapaaGreatDoorKySpec
import Derived.Test.YtlbnemnadegapaaGreatDoorKySteps
import Derived.Test.YtlbnemnadegapaaGreatDoorKyEqF
import Derived.Test.YtlbnemnadegapaaGreatDoorKyLive
set_option linter.unusedVariables false
set_option linter.unusedSimpArgs false
namespace Go.Proofs.YtlbnemnadegapaaGreatDoor.Ky
open Go.RowKit Go.Proofs.YtlbnemnadegapaaGreatDoor.K Go.Proofs.YtlbnemnadegapaaGreatDoor.Nm
theorem mvK_ok {K : Nat} (hK : 0 < K) (m : MV) : (0 ≤ (mvK K m).kind ∧ (mvK K m).kind < 6) ∧ (∃ i : Nat, (mvK K m).key = (i : Nat) ∧ i < K) ∧ (mvK K m).id.size = 1 := by
  refine ⟨⟨by show 0 ≤ m.kind % 6; omega, by show m.kind % 6 < 6; omega⟩, ⟨(m.key % (K : Int)).toNat, ?_, ?_⟩, nmT_size _⟩
  · show m.key % (K : Int) = _
    have := Int.emod_nonneg m.key (show (K : Int) ≠ 0 by omega)
    omega
  · have := Int.emod_nonneg m.key (show (K : Int) ≠ 0 by omega)
    have := Int.emod_lt_of_pos m.key (show (0 : Int) < K by omega)
    omega
set_option maxRecDepth 100000 in
set_option maxHeartbeats 8000000 in
theorem FnKeySet_calls (w : World) (A0 : Option Addr) (n c0 : Nat) (l0 : List UInt8) (h0 : Reads w 1 A0 n (bys l0)) (A1 : Option Addr) (n1 c1 : Nat) (ms : List MV) (h1 : MVL w A1 n1 ms) :
    Calls Tryz.prog 3 #[.slice A0 n c0, .slice A1 n1 c1] w fun e w' => e = .returned (.bool true) ∧ Below w.heap.size w w' := by
  by_cases g0 : 2147483647 < n
  · have k0 : (2147483647 : Int) < (n : Int) := by omega
    go_enter Tryz.func3, Tryz.ntmps3
    go_wp2
    go_ret
    exact ⟨rfl, Below.refl _ _⟩
  have k0 : ¬ (2147483647 : Int) < (n : Int) := by omega
  by_cases g1 : 2147483647 < n1
  · have k1 : (2147483647 : Int) < (n1 : Int) := by omega
    go_enter Tryz.func3, Tryz.ntmps3
    go_wp2
    go_ret
    exact ⟨rfl, Below.refl _ _⟩
  have k1 : ¬ (2147483647 : Int) < (n1 : Int) := by omega
  have HL := Lib.hid (keysLive_calls w)
  by_cases j0 : n = 0
  · subst j0
    go_enter Tryz.func3, Tryz.ntmps3
    go_wp2_with (go_at_call 4; (with_reducible refine Calls.mono HL.out ?_); rintro e w1 ⟨rfl, hb⟩; have HB := Lib.hid hb; clear hb)
    go_ret
    exact ⟨rfl, HB.out⟩
  have j0' : ((n : Int) == 0) = false := by rw [beq_eq_false_iff_ne]; omega
  by_cases j1 : 8 < n
  · have j1' : (8 : Int) < (n : Int) := by omega
    go_enter Tryz.func3, Tryz.ntmps3
    go_wp2_with (go_at_call 4; (with_reducible refine Calls.mono HL.out ?_); rintro e w1 ⟨rfl, hb⟩; have HB := Lib.hid hb; clear hb)
    go_ret
    exact ⟨rfl, HB.out⟩
  have j1' : ¬ (8 : Int) < (n : Int) := by omega
  by_cases j2 : 60 < n1
  · have j2' : (60 : Int) < (n1 : Int) := by omega
    go_enter Tryz.func3, Tryz.ntmps3
    go_wp2_with (go_at_call 4; (with_reducible refine Calls.mono HL.out ?_); rintro e w1 ⟨rfl, hb⟩; have HB := Lib.hid hb; clear hb)
    go_ret
    exact ⟨rfl, HB.out⟩
  have j2' : ¬ (60 : Int) < (n1 : Int) := by omega
  clear HL
  have hml := h1.len
  have HM1 := Lib.hid h1
  have HKD := Lib.hid (keyData_calls w A0 n c0 l0 h0 (by omega))
  obtain ⟨S0, hS0⟩ : ∃ S0, S0 = ms.map (mvK n) := ⟨_, rfl⟩
  have HS0 := Lib.hid (show S0.length = n1 ∧ ∀ s ∈ S0, (0 ≤ s.kind ∧ s.kind < 6) ∧ (∃ i : Nat, s.key = (i : Nat) ∧ i < n) ∧ s.id.size = 1 from by
    subst hS0
    refine ⟨by rw [List.length_map, ← hml], fun s hs => ?_⟩
    obtain ⟨m, hm, rfl⟩ := List.mem_map.1 hs
    exact mvK_ok (by omega) m)
  have HSE := Lib.hid hS0
  have HML := Lib.hid hml
  have HN := Lib.hid (show 0 < n ∧ n ≤ 8 ∧ n1 ≤ 60 by omega)
  clear hS0 hml h0 h1 g0 g1 j1 j2
  go_enter Tryz.func3, Tryz.ntmps3
  go_wp2_with (first
    | (go_at_call 5; (with_reducible refine Calls.mono HKD.out ?_); rintro e w1 ⟨v, ds, rfl, hown, hkdi, hdl, hdm, hb⟩; obtain ⟨ad, kc1, rfl, hkdl⟩ := hkdi.kdl hown (by have := HN.out.1; omega); rw [hdl] at hkdl; rw [hdl]; have HD := Lib.hid (And.intro hkdl (And.intro hdl hb)); have HSM := Lib.hid (keySteps_calls w1 A1 n1 c1 ms (HM1.out.below hb) (by have := HN.out.2.2; omega) n HN.out.1 (by have := HN.out.2.1; omega)); clear hown hkdi hdl hdm hb hkdl)
    | (go_at_call 6; (with_reducible refine Calls.mono HSM.out ?_); rintro e w2 ⟨v, rfl, hm⟩; obtain ⟨OA0, Oc0, rfl⟩ := own_slice hm.1; have hst : STL w2 OA0 n1 S0 := (by have := Reads.of_own hm.1; rw [HML.out, List.take_length, ← HSE.out] at this; rw [HML.out]; exact this); have hkd2 := HD.out.1.below hm.2 (Nat.le_refl _); have HC1 := Lib.hid (KeyRun_calls ad n kc1 ds hkd2 (by rw [HD.out.2.1]; have := HN.out.2.1; omega) OA0 n1 Oc0 S0 hst (by rw [HS0.out.1]; have := HN.out.2.2; omega) (fun _ => False) (fun l _ hl => by cases l with | nil => simp | cons a l => exact (hl a (by simp)).elim) (fun s hs => by have := (HS0.out.2 s hs).1; omega) (fun s hs e => by have := (HS0.out.2 s hs).1; omega)); have HM2 := Lib.hid (And.intro hst (And.intro hkd2 (HD.out.2.2.trans (hm.2.mono HD.out.2.2.size)))); clear hm hst hkd2)
    | (go_at_call 8; (with_reducible refine Calls.mono HC1.out ?_); rintro e w5 ⟨B5, v, Ks, rfl, hnd, hkl, hO, hb, hB⟩; have hlen : ∀ s ∈ runB Ks (idB Ks ds) [] S0, s.all.length ≤ 1000 := (fun s hs => by have := run_few hnd S0 [] ⟨List.nodup_nil, fun x hx => by simp at hx⟩ s hs; have := HN.out.2.1; omega); rw [run_anew hnd (fun s hs => by rw [hkl]; exact (HS0.out.2 s hs).2.1)] at hO hlen; obtain ⟨A5, c5, hv, hSN⟩ := hO.read; rw [runS_len, HS0.out.1] at hv hSN; subst hv; have HN5 := Lib.hid (And.intro hSN (And.intro hlen hb)); have HC2 := Lib.hid (specRun_calls (w := w5) ad n kc1 ds (HM2.out.2.1.below hb (Nat.le_refl _)) (by have := HN.out.2.1; omega) OA0 n1 Oc0 S0 (HM2.out.1.below hb (Nat.le_refl _)) (by rw [HS0.out.1]; have := HN.out.2.2; omega) (fun s hs => (HS0.out.2 s hs).1) (fun s hs => (HS0.out.2 s hs).2.1) (fun s hs => (HS0.out.2 s hs).2.2)); clear hnd hkl hO hb hB hSN hlen)
    | (go_at_call 9; (with_reducible refine Calls.mono HC2.out ?_); rintro e w6 ⟨B6, v, rfl, hO, hb, hB⟩; obtain ⟨A6, c6, hv, hSN⟩ := hO.read; rw [runS_len, HS0.out.1] at hv hSN; subst hv; have HEQ := Lib.hid (EqF_calls (c := c5) (c2 := c6) (HN5.out.1.below hb) hSN HN5.out.2.1 (by have := HN.out.2.2; omega)); have H6 := Lib.hid ((HM2.out.2.2.trans (HN5.out.2.2.mono HM2.out.2.2.size)).trans (hb.mono (HM2.out.2.2.trans (HN5.out.2.2.mono HM2.out.2.2.size)).size)); clear hO hb hB hSN)
    | (go_at_call 7; (refine Calls.mono HEQ.out ?_); rintro e w7 ⟨rfl, hb7⟩; have H7 := Lib.hid (H6.out.trans (hb7.mono H6.out.size)); have HLV := Lib.hid (keysLive_calls w7); clear hb7)
    | (go_at_call 4; (with_reducible refine Calls.mono HLV.out ?_); rintro e w8 ⟨rfl, hb8⟩; have H8 := Lib.hid (H7.out.trans (hb8.mono H7.out.size)); clear hb8))
  go_ret
  exact ⟨rfl, H8.out⟩
end Go.Proofs.YtlbnemnadegapaaGreatDoor.Ky
