/- The walk of the law FnPartKeySizes; no condition. -/
import Derived.Test.YtimicibalhaljaaLawKs
set_option linter.unusedVariables false
set_option linter.unusedSimpArgs false
namespace Go.Proofs.Ytimicibalhaljaa.B64
open Go.RowKit Go.Proofs.Ytimicibalhaljaa.K Go.Proofs.Ytimicibalhaljaa.Own
theorem ksz_es (a c : ByteArray) (hes : (a.toList == ES) = true) (hc : 0 < csz c.toList) (w : World) : Calls Try.prog 28 #[.string a, .string c] w (YesI c (csz c.toList) false w) := by
  refine (KeySizeOf_calls w a c).mono ?_
  rintro e w' ⟨hB, ⟨h1, h2, rfl⟩ | ⟨h1, h2, rfl⟩ | ⟨h1, s, n, b, rfl⟩⟩
  · exact ⟨rfl, hB⟩
  · rw [hes] at h1; cases h1
  · rcases h1 with h1 | h1
    · omega
    · rw [hes] at h1; cases h1.1
theorem ksz_kw (a c : ByteArray) (hes : (a.toList == ES) = false) (hk : 0 < kwsz a.toList) (w : World) : Calls Try.prog 28 #[.string a, .string c] w (YesI a (kwsz a.toList) true w) := by
  refine (KeySizeOf_calls w a c).mono ?_
  rintro e w' ⟨hB, ⟨h1, h2, rfl⟩ | ⟨h1, h2, rfl⟩ | ⟨h1, s, n, b, rfl⟩⟩
  · rw [hes] at h1; cases h1
  · exact ⟨rfl, hB⟩
  · rcases h1 with h1 | h1
    · rw [hes] at h1; cases h1.1
    · omega
theorem ksz_no (a c : ByteArray) (h : ((a.toList == ES) = true ∧ csz c.toList = 0) ∨ ((a.toList == ES) = false ∧ kwsz a.toList = 0)) (w : World) : Calls Try.prog 28 #[.string a, .string c] w (NoI w) := by
  refine (KeySizeOf_calls w a c).mono ?_
  rintro e w' ⟨hB, ⟨h1, h2, rfl⟩ | ⟨h1, h2, rfl⟩ | ⟨h1, s, n, b, rfl⟩⟩
  · rcases h with h | h
    · omega
    · rw [h.1] at h1; cases h1
  · rcases h with h | h
    · rw [h.1] at h1; cases h1
    · omega
  · exact ⟨s, n, b, rfl, hB⟩
set_option maxRecDepth 100000 in
set_option maxHeartbeats 2000000 in
theorem kss_no_no (w : World) (a c d : ByteArray) (h1i : ¬ (2147483647 : Int) < (a.size : Int)) (h2i : ¬ (2147483647 : Int) < (c.size : Int)) (h3i : ¬ (2147483647 : Int) < (d.size : Int)) (h4i : ¬ (100 : Int) < (a.size : Int)) (h5i : ¬ (100 : Int) < (c.size : Int)) (h6i : ¬ (100 : Int) < (d.size : Int)) (hy1 : Hid (∀ w, Calls Try.prog 28 #[.string a, .string c] w (NoI w))) (hy2 : Hid (∀ w, Calls Try.prog 28 #[.string a, .string d] w (NoI w))) :
    Calls Try.prog 10 #[.string a, .string c, .string d] w fun e w' => e = .returned (.bool true) ∧ Below w.heap.size w w' := by
  have HAW := Lib.hid (fun W : World => partAwake_calls W)
  go_enter Try.func10, Try.ntmps10
  go_wp2_with fail
  refine (hy1.out w).mono ?_
  rintro e w1 ⟨s7, n7, b7, rfl, hB⟩
  have HB1 := Lib.hid hB
  clear hB
  go_wp2_with fail
  refine (hy2.out w1).mono ?_
  rintro e w2 ⟨s8, n8, b8, rfl, hB⟩
  have HB2 := Lib.hid (below_then HB1.out hB)
  clear hB
  go_wp2_with fail
  refine (HAW.out w2).mono ?_
  rintro e w3 ⟨rfl, hB3⟩
  have HB3 := Lib.hid (below_then HB2.out hB3)
  clear hB3
  go_wp2
  go_ret
  exact ⟨rfl, HB3.out⟩
set_option maxRecDepth 100000 in
set_option maxHeartbeats 2000000 in
theorem kss_no_es (w : World) (a c d : ByteArray) (h1i : ¬ (2147483647 : Int) < (a.size : Int)) (h2i : ¬ (2147483647 : Int) < (c.size : Int)) (h3i : ¬ (2147483647 : Int) < (d.size : Int)) (h4i : ¬ (100 : Int) < (a.size : Int)) (h5i : ¬ (100 : Int) < (c.size : Int)) (h6i : ¬ (100 : Int) < (d.size : Int)) (n1 n2 : Nat) (hy1 : Hid (∀ w, Calls Try.prog 28 #[.string a, .string c] w (NoI w))) (hy2 : Hid (∀ w, Calls Try.prog 28 #[.string a, .string d] w (YesI d n2 false w))) :
    Calls Try.prog 10 #[.string a, .string c, .string d] w fun e w' => e = .returned (.bool true) ∧ Below w.heap.size w w' := by
  have HAW := Lib.hid (fun W : World => partAwake_calls W)
  go_enter Try.func10, Try.ntmps10
  go_wp2_with fail
  refine (hy1.out w).mono ?_
  rintro e w1 ⟨s7, n7, b7, rfl, hB⟩
  have HB1 := Lib.hid hB
  clear hB
  go_wp2_with fail
  refine (hy2.out w1).mono ?_
  rintro e w2 ⟨rfl, hB⟩
  have HB2 := Lib.hid (below_then HB1.out hB)
  clear hB
  go_wp2_with fail
  refine (HAW.out w2).mono ?_
  rintro e w3 ⟨rfl, hB3⟩
  have HB3 := Lib.hid (below_then HB2.out hB3)
  clear hB3
  go_wp2
  go_ret
  exact ⟨rfl, HB3.out⟩
set_option maxRecDepth 100000 in
set_option maxHeartbeats 2000000 in
theorem kss_es_no (w : World) (a c d : ByteArray) (h1i : ¬ (2147483647 : Int) < (a.size : Int)) (h2i : ¬ (2147483647 : Int) < (c.size : Int)) (h3i : ¬ (2147483647 : Int) < (d.size : Int)) (h4i : ¬ (100 : Int) < (a.size : Int)) (h5i : ¬ (100 : Int) < (c.size : Int)) (h6i : ¬ (100 : Int) < (d.size : Int)) (n1 n2 : Nat) (hy1 : Hid (∀ w, Calls Try.prog 28 #[.string a, .string c] w (YesI c n1 false w))) (hy2 : Hid (∀ w, Calls Try.prog 28 #[.string a, .string d] w (NoI w))) :
    Calls Try.prog 10 #[.string a, .string c, .string d] w fun e w' => e = .returned (.bool true) ∧ Below w.heap.size w w' := by
  have HAW := Lib.hid (fun W : World => partAwake_calls W)
  go_enter Try.func10, Try.ntmps10
  go_wp2_with fail
  refine (hy1.out w).mono ?_
  rintro e w1 ⟨rfl, hB⟩
  have HB1 := Lib.hid hB
  clear hB
  go_wp2_with fail
  refine (hy2.out w1).mono ?_
  rintro e w2 ⟨s8, n8, b8, rfl, hB⟩
  have HB2 := Lib.hid (below_then HB1.out hB)
  clear hB
  go_wp2_with fail
  refine (HAW.out w2).mono ?_
  rintro e w3 ⟨rfl, hB3⟩
  have HB3 := Lib.hid (below_then HB2.out hB3)
  clear hB3
  go_wp2
  go_ret
  exact ⟨rfl, HB3.out⟩
set_option maxRecDepth 100000 in
set_option maxHeartbeats 2000000 in
theorem kss_es_es (w : World) (a c d : ByteArray) (h1i : ¬ (2147483647 : Int) < (a.size : Int)) (h2i : ¬ (2147483647 : Int) < (c.size : Int)) (h3i : ¬ (2147483647 : Int) < (d.size : Int)) (h4i : ¬ (100 : Int) < (a.size : Int)) (h5i : ¬ (100 : Int) < (c.size : Int)) (h6i : ¬ (100 : Int) < (d.size : Int)) (n1 n2 : Nat) (hcs1 : Hid (n1 = csz c.toList)) (hcs2 : Hid (n2 = csz d.toList)) (hy1 : Hid (∀ w, Calls Try.prog 28 #[.string a, .string c] w (YesI c n1 false w))) (hy2 : Hid (∀ w, Calls Try.prog 28 #[.string a, .string d] w (YesI d n2 false w))) :
    Calls Try.prog 10 #[.string a, .string c, .string d] w fun e w' => e = .returned (.bool true) ∧ Below w.heap.size w w' := by
  have HAW := Lib.hid (fun W : World => partAwake_calls W)
  go_enter Try.func10, Try.ntmps10
  go_wp2_with fail
  refine (hy1.out w).mono ?_
  rintro e w1 ⟨rfl, hB⟩
  have HB1 := Lib.hid hB
  clear hB
  go_wp2_with fail
  refine (hy2.out w1).mono ?_
  rintro e w2 ⟨rfl, hB⟩
  have HB2 := Lib.hid (below_then HB1.out hB)
  clear hB
  go_wp2_with fail
  have hp1 := PartContentSize_calls w2 c
  rw [← hcs1.out] at hp1
  have HP1 := Lib.hid hp1
  clear hp1
  refine HP1.out.mono ?_
  rintro e w' ⟨rfl, rfl⟩
  go_wp2_with fail
  have hp2 := PartContentSize_calls w2 d
  rw [← hcs2.out] at hp2
  have HP2 := Lib.hid hp2
  clear hp2
  refine HP2.out.mono ?_
  rintro e w' ⟨rfl, rfl⟩
  go_wp2_with fail
  refine (HAW.out w2).mono ?_
  rintro e w3 ⟨rfl, hB3⟩
  have HB3 := Lib.hid (below_then HB2.out hB3)
  clear hB3
  go_wp2
  go_ret
  exact ⟨rfl, HB3.out⟩
set_option maxRecDepth 100000 in
set_option maxHeartbeats 2000000 in
theorem kss_kw_kw (w : World) (a c d : ByteArray) (h1i : ¬ (2147483647 : Int) < (a.size : Int)) (h2i : ¬ (2147483647 : Int) < (c.size : Int)) (h3i : ¬ (2147483647 : Int) < (d.size : Int)) (h4i : ¬ (100 : Int) < (a.size : Int)) (h5i : ¬ (100 : Int) < (c.size : Int)) (h6i : ¬ (100 : Int) < (d.size : Int)) (n1 : Nat) (hy1 : Hid (∀ w, Calls Try.prog 28 #[.string a, .string c] w (YesI a n1 true w))) (hy2 : Hid (∀ w, Calls Try.prog 28 #[.string a, .string d] w (YesI a n1 true w))) :
    Calls Try.prog 10 #[.string a, .string c, .string d] w fun e w' => e = .returned (.bool true) ∧ Below w.heap.size w w' := by
  have HAW := Lib.hid (fun W : World => partAwake_calls W)
  go_enter Try.func10, Try.ntmps10
  go_wp2_with fail
  refine (hy1.out w).mono ?_
  rintro e w1 ⟨rfl, hB⟩
  have HB1 := Lib.hid hB
  clear hB
  go_wp2_with fail
  refine (hy2.out w1).mono ?_
  rintro e w2 ⟨rfl, hB⟩
  have HB2 := Lib.hid (below_then HB1.out hB)
  clear hB
  go_wp2_with fail
  refine (HAW.out w2).mono ?_
  rintro e w3 ⟨rfl, hB3⟩
  have HB3 := Lib.hid (below_then HB2.out hB3)
  clear hB3
  go_wp2
  go_ret
  exact ⟨rfl, HB3.out⟩
set_option maxRecDepth 100000 in
set_option maxHeartbeats 2000000 in
theorem FnPartKeySizes_calls (w : World) (a c d : ByteArray) (ha : a.size ≤ 140737488351232) (hc : c.size ≤ 140737488351232) (hd : d.size ≤ 140737488351232) :
    Calls Try.prog 10 #[.string a, .string c, .string d] w fun e w' => e = .returned (.bool true) ∧ Below w.heap.size w w' := by
  by_cases h1 : a.size > 2147483647
  · have hi : (2147483647 : Int) < (a.size : Int) := by omega
    go_enter Try.func10, Try.ntmps10
    go_wp2
    go_ret
    exact ⟨rfl, Below.refl _ _⟩
  have h1i : ¬ (2147483647 : Int) < (a.size : Int) := by omega
  by_cases h2 : c.size > 2147483647
  · have hi : (2147483647 : Int) < (c.size : Int) := by omega
    go_enter Try.func10, Try.ntmps10
    go_wp2
    go_ret
    exact ⟨rfl, Below.refl _ _⟩
  have h2i : ¬ (2147483647 : Int) < (c.size : Int) := by omega
  by_cases h3 : d.size > 2147483647
  · have hi : (2147483647 : Int) < (d.size : Int) := by omega
    go_enter Try.func10, Try.ntmps10
    go_wp2
    go_ret
    exact ⟨rfl, Below.refl _ _⟩
  have h3i : ¬ (2147483647 : Int) < (d.size : Int) := by omega
  have HAW := Lib.hid (fun W : World => partAwake_calls W)
  by_cases h4 : a.size > 100
  · have hi : (100 : Int) < (a.size : Int) := by omega
    go_enter Try.func10, Try.ntmps10
    go_wp2_with fail
    refine (HAW.out w).mono ?_
    rintro e w2 ⟨rfl, hB2⟩
    have HB2 := Lib.hid hB2
    clear hB2
    go_wp2
    go_ret
    exact ⟨rfl, HB2.out⟩
  have h4i : ¬ (100 : Int) < (a.size : Int) := by omega
  by_cases h5 : c.size > 100
  · have hi : (100 : Int) < (c.size : Int) := by omega
    go_enter Try.func10, Try.ntmps10
    go_wp2_with fail
    refine (HAW.out w).mono ?_
    rintro e w2 ⟨rfl, hB2⟩
    have HB2 := Lib.hid hB2
    clear hB2
    go_wp2
    go_ret
    exact ⟨rfl, HB2.out⟩
  have h5i : ¬ (100 : Int) < (c.size : Int) := by omega
  by_cases h6 : d.size > 100
  · have hi : (100 : Int) < (d.size : Int) := by omega
    go_enter Try.func10, Try.ntmps10
    go_wp2_with fail
    refine (HAW.out w).mono ?_
    rintro e w2 ⟨rfl, hB2⟩
    have HB2 := Lib.hid hB2
    clear hB2
    go_wp2
    go_ret
    exact ⟨rfl, HB2.out⟩
  have h6i : ¬ (100 : Int) < (d.size : Int) := by omega
  by_cases hes : (a.toList == ES) = true
  · by_cases hcc : 0 < csz c.toList
    · by_cases hdd : 0 < csz d.toList
      · exact kss_es_es w a c d h1i h2i h3i h4i h5i h6i _ _ rfl rfl (ksz_es a c hes hcc) (ksz_es a d hes hdd)
      · exact kss_es_no w a c d h1i h2i h3i h4i h5i h6i _ 0 (ksz_es a c hes hcc) (ksz_no a d (.inl ⟨hes, by omega⟩))
    · by_cases hdd : 0 < csz d.toList
      · exact kss_no_es w a c d h1i h2i h3i h4i h5i h6i 0 _ (ksz_no a c (.inl ⟨hes, by omega⟩)) (ksz_es a d hes hdd)
      · exact kss_no_no w a c d h1i h2i h3i h4i h5i h6i (ksz_no a c (.inl ⟨hes, by omega⟩)) (ksz_no a d (.inl ⟨hes, by omega⟩))
  · have hes2 : (a.toList == ES) = false := by simpa using hes
    by_cases hk : 0 < kwsz a.toList
    · exact kss_kw_kw w a c d h1i h2i h3i h4i h5i h6i _ (ksz_kw a c hes2 hk) (ksz_kw a d hes2 hk)
    · exact kss_no_no w a c d h1i h2i h3i h4i h5i h6i (ksz_no a c (.inr ⟨hes2, by omega⟩)) (ksz_no a d (.inr ⟨hes2, by omega⟩))
end Go.Proofs.Ytimicibalhaljaa.B64
