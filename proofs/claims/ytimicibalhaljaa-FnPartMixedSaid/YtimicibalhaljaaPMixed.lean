/- Texts of both alphabets in plain lists; no condition. -/
import Derived.Test.YtimicibalhaljaaPQuant
set_option linter.unusedVariables false
set_option linter.unusedSimpArgs false
namespace Go.Proofs.Ytimicibalhaljaa.B64
open Go.Proofs.Ytimicibalhaljaa.Own
theorem decL_bad (f : UInt8 → Nat) : ∀ (n : Nat) (x y : List UInt8), x.length ≤ n → x.length % 4 = 0 → 4 ≤ y.length → ¬ ok4 f (bt y 0) (bt y 1) (bt y 2) (bt y 3) = true → decL f false (x ++ y) = none := by
  intro n
  induction n with
  | zero =>
    intro x y hx _ hy hk
    obtain rfl : x = [] := List.eq_nil_of_length_eq_zero (by omega)
    match y, hy, hk with
    | a :: b :: c :: d :: r, _, hk =>
      have hk : ¬ ok4 f a b c d = true := hk
      rw [List.nil_append, decL, if_neg hk]
      cases r <;> simp [tailD]
  | succ n ih =>
    intro x y hx h4 hy hk
    match x, hx, h4 with
    | [], _, _ => exact ih [] y (by simp) rfl hy hk
    | [a], _, h4 => simp at h4
    | [a, b], _, h4 => simp at h4
    | [a, b, c], _, h4 => simp at h4
    | a :: b :: c :: d :: r, hx, h4 =>
      have e : (a :: b :: c :: d :: r) ++ y = a :: b :: c :: d :: (r ++ y) := rfl
      rw [e, decL]
      by_cases hk4 : ok4 f a b c d = true
      · rw [if_pos hk4, ih r y (by simp at hx; omega) (by simp at h4; omega) hy hk]
        rfl
      · rw [if_neg hk4]
        cases h : r ++ y with
        | nil =>
          have hy0 : y = [] := (List.append_eq_nil_iff.1 h).2
          rw [hy0] at hy
          simp at hy
        | cons z zs => simp [tailD]
theorem encL_whole_len (al : List UInt8) (p : Bool) : ∀ (n : Nat) (bs : List UInt8), bs.length ≤ n → bs.length % 3 = 0 → (encL al p bs).length % 4 = 0 := by
  intro n
  induction n with
  | zero =>
    intro bs h _
    obtain rfl : bs = [] := List.eq_nil_of_length_eq_zero (by omega)
    rfl
  | succ n ih =>
    intro bs h h3
    match bs, h, h3 with
    | [], _, _ => rfl
    | [a], _, h3 => simp at h3
    | [a, b], _, h3 => simp at h3
    | a :: b :: c :: r, h, h3 =>
      have := ih r (by simp at h; omega) (by simp at h3; omega)
      rw [encL, List.length_append, let4_len]
      omega
/-- Letters of both alphabets behind whole groups: no text. -/
theorem mixed_none (bs : List UInt8) (h : bs.length % 3 = 0) (c1 c2 : UInt8) (h1 : c1 = 45 ∨ c1 = 95) (h2 : c2 = 43 ∨ c2 = 47) : partDec (encL alURL false bs ++ [c1, c2, 65, 65]) = none := by
  have hs : isStd (encL alURL false bs ++ [c1, c2, 65, 65]) = true := by
    rw [isStd, List.any_append]
    rcases h2 with rfl | rfl <;> simp
  have hp : isPad (encL alURL false bs ++ [c1, c2, 65, 65]) = false := by
    simp [isPad]
  rw [partDec, alOf, hs, hp, if_pos rfl]
  refine decL_bad _ _ _ _ (Nat.le_refl _) (encL_whole_len _ _ _ bs (Nat.le_refl _) h) (by simp) ?_
  intro hk
  have hk : ok4 (fL alStd) c1 c2 65 65 = true := hk
  simp only [ok4, Bool.and_eq_true, decide_eq_true_eq] at hk
  have h3 := hk.1.1.1
  rcases h1 with rfl | rfl
  · rw [show fL alStd 45 = 255 by decide +kernel] at h3; omega
  · rw [show fL alStd 95 = 255 by decide +kernel] at h3; omega
theorem mixed_nl (bs : List UInt8) (c1 c2 : UInt8) (h1 : c1 = 45 ∨ c1 = 95) (h2 : c2 = 43 ∨ c2 = 47) : ∀ c ∈ encL alURL false bs ++ [c1, c2, 65, 65], c ≠ 10 ∧ c ≠ 13 := by
  intro c hc
  rw [List.mem_append] at hc
  rcases hc with hc | hc
  · exact enc_nl alURL false url_nl bs c hc
  · simp at hc
    rcases hc with rfl | rfl | rfl
    · rcases h1 with rfl | rfl <;> decide
    · rcases h2 with rfl | rfl <;> decide
    · decide
end Go.Proofs.Ytimicibalhaljaa.B64
