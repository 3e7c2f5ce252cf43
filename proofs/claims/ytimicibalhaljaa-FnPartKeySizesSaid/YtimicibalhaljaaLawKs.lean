/- The walk of the law FnPartKeySize; no condition. -/
import Derived.Test.YtimicibalhaljaaPartKs2
set_option linter.unusedVariables false
set_option linter.unusedSimpArgs false
namespace Go.Proofs.Ytimicibalhaljaa.B64
open Go.RowKit Go.Proofs.Ytimicibalhaljaa.K Go.Proofs.Ytimicibalhaljaa.Own
def YesI (s : ByteArray) (n : Nat) (b : Bool) (w : World) (e : Ending) (w' : World) : Prop := e = .returned (.tuple #[.string s, .int .u32 (n : Nat), .bool b, .bool true]) ∧ Below w.heap.size w w'
def NoI (w : World) (e : Ending) (w' : World) : Prop := ∃ (s : ByteArray) (n : Int) (b : Bool), e = .returned (.tuple #[.string s, .int .u32 n, .bool b, .bool false]) ∧ Below w.heap.size w w'
/-- Both tell the same, or both refuse. -/
theorem ks_both (a c : ByteArray) :
    (∃ s n b, (∀ w, Calls Try.prog 28 #[.string a, .string c] w (YesI s n b w)) ∧ (∀ w, Calls Try.prog 29 #[.string a, .string c] w (YesI s n b w))) ∨
    ((∀ w, Calls Try.prog 28 #[.string a, .string c] w (NoI w)) ∧ (∀ w, Calls Try.prog 29 #[.string a, .string c] w (NoI w))) := by
  by_cases hes : (a.toList == ES) = true
  · by_cases hc : 0 < csz c.toList
    · refine .inl ⟨c, csz c.toList, false, fun w => (KeySizeOf_calls w a c).mono ?_, fun w => (PartKeySize_calls w a c).mono ?_⟩
      · rintro e w' ⟨hB, ⟨h1, h2, rfl⟩ | ⟨h1, h2, rfl⟩ | ⟨h1, s, n, b, rfl⟩⟩
        · exact ⟨rfl, hB⟩
        · rw [hes] at h1; cases h1
        · rcases h1 with h1 | h1
          · omega
          · rw [hes] at h1; cases h1.1
      · rintro e w' ⟨rfl, ⟨h1, h2, rfl⟩ | ⟨h1, h2, rfl⟩ | ⟨h1, s, n, b, rfl⟩⟩
        · exact ⟨rfl, Below.refl _ _⟩
        · rw [hes] at h1; cases h1
        · rcases h1 with h1 | h1
          · omega
          · rw [hes] at h1; cases h1.1
    · refine .inr ⟨fun w => (KeySizeOf_calls w a c).mono ?_, fun w => (PartKeySize_calls w a c).mono ?_⟩
      · rintro e w' ⟨hB, ⟨h1, h2, rfl⟩ | ⟨h1, h2, rfl⟩ | ⟨h1, s, n, b, rfl⟩⟩
        · omega
        · rw [hes] at h1; cases h1
        · exact ⟨s, n, b, rfl, hB⟩
      · rintro e w' ⟨rfl, ⟨h1, h2, rfl⟩ | ⟨h1, h2, rfl⟩ | ⟨h1, s, n, b, rfl⟩⟩
        · omega
        · rw [hes] at h1; cases h1
        · exact ⟨s, n, b, rfl, Below.refl _ _⟩
  · have hes2 : (a.toList == ES) = false := by simpa using hes
    by_cases hk : 0 < kwsz a.toList
    · refine .inl ⟨a, kwsz a.toList, true, fun w => (KeySizeOf_calls w a c).mono ?_, fun w => (PartKeySize_calls w a c).mono ?_⟩
      · rintro e w' ⟨hB, ⟨h1, h2, rfl⟩ | ⟨h1, h2, rfl⟩ | ⟨h1, s, n, b, rfl⟩⟩
        · exact absurd h1 hes
        · exact ⟨rfl, hB⟩
        · rcases h1 with h1 | h1
          · exact absurd h1.1 hes
          · omega
      · rintro e w' ⟨rfl, ⟨h1, h2, rfl⟩ | ⟨h1, h2, rfl⟩ | ⟨h1, s, n, b, rfl⟩⟩
        · exact absurd h1 hes
        · exact ⟨rfl, Below.refl _ _⟩
        · rcases h1 with h1 | h1
          · exact absurd h1.1 hes
          · omega
    · refine .inr ⟨fun w => (KeySizeOf_calls w a c).mono ?_, fun w => (PartKeySize_calls w a c).mono ?_⟩
      · rintro e w' ⟨hB, ⟨h1, h2, rfl⟩ | ⟨h1, h2, rfl⟩ | ⟨h1, s, n, b, rfl⟩⟩
        · exact absurd h1 hes
        · omega
        · exact ⟨s, n, b, rfl, hB⟩
      · rintro e w' ⟨rfl, ⟨h1, h2, rfl⟩ | ⟨h1, h2, rfl⟩ | ⟨h1, s, n, b, rfl⟩⟩
        · exact absurd h1 hes
        · omega
        · exact ⟨s, n, b, rfl, Below.refl _ _⟩
set_option maxRecDepth 100000 in
set_option maxHeartbeats 2000000 in
theorem FnPartKeySize_calls (w : World) (a c : ByteArray) (ha : a.size ≤ 140737488351232) (hc : c.size ≤ 140737488351232) :
    Calls Try.prog 9 #[.string a, .string c] w fun e w' => e = .returned (.bool true) ∧ Below w.heap.size w w' := by
  by_cases h1 : a.size > 2147483647
  · have h1i : (2147483647 : Int) < (a.size : Int) := by omega
    go_enter Try.func9, Try.ntmps9
    go_wp2
    go_ret
    exact ⟨rfl, Below.refl _ _⟩
  have h1i : ¬ (2147483647 : Int) < (a.size : Int) := by omega
  by_cases h2 : c.size > 2147483647
  · have h2i : (2147483647 : Int) < (c.size : Int) := by omega
    go_enter Try.func9, Try.ntmps9
    go_wp2
    go_ret
    exact ⟨rfl, Below.refl _ _⟩
  have h2i : ¬ (2147483647 : Int) < (c.size : Int) := by omega
  have HAW := Lib.hid (fun W : World => partAwake_calls W)
  by_cases h3 : a.size > 100
  · have h3i : (100 : Int) < (a.size : Int) := by omega
    go_enter Try.func9, Try.ntmps9
    go_wp2_with fail
    refine (HAW.out w).mono ?_
    rintro e w2 ⟨rfl, hB2⟩
    have HB2 := Lib.hid hB2
    clear hB2
    go_wp2
    go_ret
    exact ⟨rfl, HB2.out⟩
  have h3i : ¬ (100 : Int) < (a.size : Int) := by omega
  by_cases h4 : c.size > 100
  · have h4i : (100 : Int) < (c.size : Int) := by omega
    go_enter Try.func9, Try.ntmps9
    go_wp2_with fail
    refine (HAW.out w).mono ?_
    rintro e w2 ⟨rfl, hB2⟩
    have HB2 := Lib.hid hB2
    clear hB2
    go_wp2
    go_ret
    exact ⟨rfl, HB2.out⟩
  have h4i : ¬ (100 : Int) < (c.size : Int) := by omega
  rcases ks_both a c with ⟨s, n, b, hy1, hy2⟩ | ⟨hn1, hn2⟩
  · have HY1 := Lib.hid hy1
    have HY2 := Lib.hid hy2
    clear hy1 hy2
    go_enter Try.func9, Try.ntmps9
    go_wp2_with fail
    refine (HY1.out w).mono ?_
    rintro e w1 ⟨rfl, hB1⟩
    have HB1 := Lib.hid hB1
    clear hB1
    go_wp2_with fail
    refine (HY2.out w1).mono ?_
    rintro e w2 ⟨rfl, hB2⟩
    have HB2 := Lib.hid (below_then HB1.out hB2)
    clear hB2
    go_wp2_with fail
    refine (HAW.out w2).mono ?_
    rintro e w3 ⟨rfl, hB3⟩
    have HB3 := Lib.hid (below_then HB2.out hB3)
    clear hB3
    go_wp2
    go_ret
    exact ⟨rfl, HB3.out⟩
  · have HY1 := Lib.hid hn1
    have HY2 := Lib.hid hn2
    clear hn1 hn2
    go_enter Try.func9, Try.ntmps9
    go_wp2_with fail
    refine (HY1.out w).mono ?_
    rintro e w1 ⟨s, n, b, rfl, hB1⟩
    have HB1 := Lib.hid hB1
    clear hB1
    go_wp2_with fail
    refine (HY2.out w1).mono ?_
    rintro e w2 ⟨s2, n2, b2, rfl, hB2⟩
    have HB2 := Lib.hid (below_then HB1.out hB2)
    clear hB2
    go_wp2_with fail
    refine (HAW.out w2).mono ?_
    rintro e w3 ⟨rfl, hB3⟩
    have HB3 := Lib.hid (below_then HB2.out hB3)
    clear hB3
    go_wp2
    go_ret
    exact ⟨rfl, HB3.out⟩
end Go.Proofs.Ytimicibalhaljaa.B64
