/- Plain law of FnPartOther: three texts between periods are alike just if the bytes are. -/
import Derived.Test.YteecamdcfkielaaDoorPartImpl
set_option linter.unusedVariables false
set_option linter.unusedSimpArgs false
namespace Go.Proofs.YteecamdcfkielaaDoor.B64
open Go.RowKit Go.Proofs.YteecamdcfkielaaDoor.K Go.Proofs.YteecamdcfkielaaDoor.Own
theorem dot_split : ∀ (x y r s : List UInt8), (∀ c ∈ x, c ≠ 46) → (∀ c ∈ y, c ≠ 46) → x ++ 46 :: r = y ++ 46 :: s → x = y ∧ r = s
  | [], [], r, s, _, _, h => ⟨rfl, by simpa using h⟩
  | [], c :: y, r, s, _, hy, h => by
    simp only [List.nil_append, List.cons_append, List.cons.injEq] at h
    exact absurd h.1.symm (hy c (by simp))
  | c :: x, [], r, s, hx, _, h => by
    simp only [List.nil_append, List.cons_append, List.cons.injEq] at h
    exact absurd h.1 (hx c (by simp))
  | c :: x, d :: y, r, s, hx, hy, h => by
    simp only [List.cons_append, List.cons.injEq] at h
    obtain ⟨rfl, h⟩ := h
    obtain ⟨rfl, h2⟩ := dot_split x y r s (fun e he => hx e (by simp [he])) (fun e he => hy e (by simp [he])) h
    exact ⟨rfl, h2⟩
theorem raw_nodot (bs : List UInt8) : ∀ c ∈ encRaw alURL bs, c ≠ 46 := by rw [encRaw_eq]; exact enc_nodot false bs
theorem raw_inj {a b : List UInt8} (h : encRaw alURL a = encRaw alURL b) : a = b := by rw [encRaw_eq, encRaw_eq] at h; exact encRaw_inj h
theorem joinL_inj {a b c x y z : List UInt8} (h : joinL true a b c = joinL true x y z) : a = x ∧ b = y ∧ c = z := by
  simp only [joinL, List.singleton_append, if_true] at h
  obtain ⟨h1, h⟩ := dot_split _ _ _ _ (raw_nodot a) (raw_nodot x) h
  obtain ⟨h2, h3⟩ := dot_split _ _ _ _ (raw_nodot b) (raw_nodot y) h
  exact ⟨raw_inj h1, raw_inj h2, raw_inj h3⟩
theorem joinL_beq (a b c x y z : List UInt8) (s0 s1 s2 : Bool) (h0 : (a == x) = s0) (h1 : (b == y) = s1) (h2 : (c == z) = s2) : (joinL true a b c == joinL true x y z) = (s0 && s1 && s2) := by
  rw [Bool.eq_iff_iff]
  subst h0 h1 h2
  simp only [beq_iff_eq, Bool.and_eq_true]
  constructor
  · intro h
    obtain ⟨rfl, rfl, rfl⟩ := joinL_inj h
    exact ⟨⟨rfl, rfl⟩, rfl⟩
  · rintro ⟨⟨rfl, rfl⟩, rfl⟩
    rfl
end Go.Proofs.YteecamdcfkielaaDoor.B64
