/- The law FnNameOther; no condition. Printed by gen_lawnm.py. -/
import Derived.Test.YtenneobgjalfhaaLawNames
import Derived.Deep.LoopGhost
import Derived.Deep.Cut
import Derived.Deep.CutRange
import Derived.Deep.CutBlock
import Derived.Deep.DeepCutAuto
import Derived.Outline
set_option linter.unusedVariables false
set_option linter.unusedSimpArgs false
namespace Go.Proofs.Ytenneobgjalfhaa.So
open Go.RowKit Go.Proofs.Ytenneobgjalfhaa.K Go.Proofs.Ytenneobgjalfhaa.Nm
theorem encode_le (r : Int) : (Utf8.encode r).size ≤ 4 := by
  unfold Utf8.encode
  have h (c : Nat) : (if c < 128 then ({ data := #[UInt8.ofNat c] } : ByteArray) else if c < 2048 then { data := #[UInt8.ofNat (192 + c / 64), UInt8.ofNat (128 + c % 64)] } else if c < 65536 then { data := #[UInt8.ofNat (224 + c / 4096), UInt8.ofNat (128 + c / 64 % 64), UInt8.ofNat (128 + c % 64)] } else { data := #[UInt8.ofNat (240 + c / 262144), UInt8.ofNat (128 + c / 4096 % 64), UInt8.ofNat (128 + c / 64 % 64), UInt8.ofNat (128 + c % 64)] }).size ≤ 4 := by
    by_cases h1 : c < 128
    · rw [if_pos h1]; show 1 ≤ 4; decide
    by_cases h2 : c < 2048
    · rw [if_neg h1, if_pos h2]; show 2 ≤ 4; decide
    by_cases h3 : c < 65536
    · rw [if_neg h1, if_neg h2, if_pos h3]; show 3 ≤ 4; decide
    · rw [if_neg h1, if_neg h2, if_neg h3]; show 4 ≤ 4; decide
  exact h _
set_option maxRecDepth 100000 in
set_option maxHeartbeats 4000000 in
theorem FnNameOther_calls (w : World) (a t v : Nat) (ha : a < 256) (ht : t < 256) (hv : v < 256) :
    Calls Try.prog 3 #[.int .u8 a, .int .u8 t, .int .u8 v] w fun e w' => e = .returned (.bool true) ∧ Below w.heap.size w w' := by
  obtain ⟨k, hk⟩ : ∃ k, k = a % 6 := ⟨_, rfl⟩
  have hk6 : k < 6 := by omega
  have h1 : (a : Int).tmod 6 = (k : Int) := by rw [Int.tmod_eq_emod_of_nonneg (by omega)]; omega
  have h2 : (a : Int) % 6 = (k : Int) := by omega
  have HS := Lib.hid (NameStandard_calls w k hk6)
  clear hk
  go_enter Try.func3, Try.ntmps3
  go_wp2_with fail
  refine HS.out.mono ?_
  rintro e w1 ⟨ad, rfl, hB1, hcl⟩
  obtain ⟨hl1, hl17⟩ := stds_len k
  obtain ⟨n, hn⟩ : ∃ n, n = (stds k).length := ⟨_, rfl⟩
  obtain ⟨j, hj⟩ : ∃ j, j = t % n := ⟨_, rfl⟩
  have hn1 : 1 ≤ n := by omega
  have hn17 : n ≤ 17 := by omega
  have hjn : j < n := by rw [hj]; exact Nat.mod_lt _ (by omega)
  have hjl : j < (stds k).length := by omega
  have hc := hcl j hjl
  obtain ⟨s, hs⟩ : ∃ s, s = (stds k)[j] := ⟨_, rfl⟩
  rw [← hs] at hc
  have hmem : s ∈ stds k := by rw [hs]; exact List.getElem_mem _
  have h3 : (t : Int).tmod (n : Int) = (j : Int) := by rw [Int.tmod_eq_emod_of_nonneg (by omega), hj]; rfl
  have h4 : (t : Int) % (n : Int) = (j : Int) := by rw [hj]; rfl
  have hjni : (j : Int) < (n : Int) := by omega
  have hn0 : ((n : Int) == 0) = false := by simp; omega
  have hn0' : ¬ ((n : Int) = 0) := by omega
  rw [← hn]
  have hsh := stds_short k hk6 s hmem
  have hs2 : 2 ≤ s.size := hsh.1
  have hs40 : s.size ≤ 40 := hsh.2
  have HB1 := Lib.hid hB1
  clear hB1 hcl hl1 hl17 hn hj hjl hs hmem HS h1 h2 hsh
  go_upto_block 0 with (fail)
  clear hc h3 h4
  go_cut [9] (fun u wc => ∃ s2, u = .string s2 ∧ Hid (Below w.heap.size w wc))
  case first =>
    rcases (show (v : Int) % 4 = 0 ∨ (v : Int) % 4 = 1 ∨ (v : Int) % 4 = 2 ∨ (v : Int) % 4 = 3 by omega) with h | h | h | h
    · go_wp2_with fail
      go_meet
      case rel => exact ⟨_, rfl, HB1⟩
    · have hs1 : (0 : Int) ≤ (s.size : Int) - 1 := by omega
      go_wp2_with fail
      go_meet
      case rel => exact ⟨_, rfl, HB1⟩
    · go_wp2_with fail
      go_meet
      case rel => exact ⟨_, rfl, HB1⟩
    · have hs1 : (0 : Int) ≤ (s.size : Int) - 1 := by omega
      obtain ⟨q, hq⟩ : ∃ q, q = s.size - 1 := ⟨_, rfl⟩
      have hw : IntKind.i64.wrap ((s.size : Int) - 1) = (q : Int) := by simp [IntKind.wrap, IntKind.bits, IntKind.signed]; omega
      have hw1 : q < s.size := by omega
      have hw2 : q ≤ s.size := by omega
      have hw3 : (q : Int) < (s.size : Int) := by omega
      have hw4 : (q : Int) ≤ (s.size : Int) := by omega
      clear hq
      have hE : ¬ (9223372036854775807 < q + (Utf8.encode (bits BinOp.xor IntKind.u8 ((s[q]'hw1).toNat : Int) 32)).size) := by
        have := encode_le (bits BinOp.xor IntKind.u8 ((s[q]'hw1).toNat : Int) 32)
        omega
      go_wp2_with fail
      go_quiet (fail)
      go_wp2_with fail
      go_meet
      case rel => exact ⟨_, rfl, Lib.hid (K.below_drewN HB1.out _)⟩
  case rest =>
    obtain ⟨s2, rfl, HB⟩ := hcut
    by_cases hs0 : s2 = ⟨#[]⟩
    · subst hs0
      have HV := Lib.hid (namesLive_calls wc)
      go_wp2_with fail
      refine HV.out.mono ?_
      rintro e w5 ⟨rfl, hB5⟩
      have HB5 := Lib.hid (below_then HB.out hB5)
      clear hB5 HV
      go_wp2
      go_ret
      exact ⟨rfl, HB5.out⟩
    · have hse1 : ¬ s2.toList = [] := by
        intro e
        rw [ByteArray.toList_eq] at e
        exact hs0 (ByteArray.ext (Array.toList_inj.1 e))
      have hse : s2.toList.isEmpty = false := by simpa using hse1
      have HF := Lib.hid (NameFound_calls wc s2 k hk6)
      go_wp2_with fail
      refine HF.out.mono ?_
      rintro e w2 ⟨hB2, t', d, y, ok, htold, rfl⟩
      have HT := Lib.hid htold
      have HB2 := Lib.hid (below_then HB.out hB2)
      have HL := Lib.hid (NameList_calls w2 k hk6)
      clear htold hB2 HF
      go_wp2_with fail
      refine HL.out.mono ?_
      rintro e w3 ⟨A, m, c, l, rfl, hB3, hm20, hNL, hl⟩
      have HB3 := Lib.hid (below_then HB2.out hB3)
      have HIN := Lib.hid (hl s2)
      have HC := Lib.hid (NContains_calls w3 A m c l s2 hNL (by omega))
      clear hB3 hNL hl HL hm20
      go_wp2_with fail
      refine HC.out.mono ?_
      rintro e w4 ⟨⟨r, rfl, hr⟩, rfl⟩
      obtain rfl : ok = r := by
        rcases HT.out with ⟨_, rfl, hp⟩ | ⟨_, _, _, rfl, hno⟩
        · exact (hr.2 (HIN.out.2 ⟨_, hp, rfl⟩)).symm
        · cases r with
          | false => rfl
          | true =>
            obtain ⟨p, hp, e⟩ := HIN.out.1 (hr.1 rfl)
            exact absurd e (hno p hp)
      clear hr HC
      have HV := Lib.hid (namesLive_calls w3)
      go_wp2_with fail
      refine HV.out.mono ?_
      rintro e w5 ⟨rfl, hB5⟩
      have HB5 := Lib.hid (below_then HB3.out hB5)
      clear hB5 HV
      go_wp2
      go_ret
      exact ⟨rfl, HB5.out⟩
end Go.Proofs.Ytenneobgjalfhaa.So
