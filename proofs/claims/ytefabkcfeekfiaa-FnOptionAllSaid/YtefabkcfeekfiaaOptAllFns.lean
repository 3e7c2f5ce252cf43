/- What FnOptionAll's steps come to, in plain lists and numbers; no condition. -/
import Derived.Test.YtefabkcfeekfiaaOptFns
import Derived.Test.YtefabkcfeekfiaaPopFns
set_option linter.unusedVariables false
set_option linter.unusedSimpArgs false
namespace Go.Proofs.Ytefabkcfeekfiaa.Opt
open Go.RowKit Go.Proofs.Ytefabkcfeekfiaa.K Go.Proofs.Ytefabkcfeekfiaa.Pop
def pre (s b : Nat) : List (Int × Nat) := [(3, s), (0, b), (4, b), (1, b), (4, b)]
def asks (k : Nat) : List (Int × Nat) := (List.range k).map fun i => ((4 : Int), 2 ^ i)
def allS (s b : Nat) : List (Int × Nat) := pre s b ++ (asks 64 ++ [(2, 0)])
theorem asks_length (k : Nat) : (asks k).length = k := by simp [asks]
theorem asks_succ (k : Nat) : asks (k + 1) = asks k ++ [((4 : Int), 2 ^ k)] := by simp [asks, List.range_succ]
theorem allS_length (s b : Nat) : (allS s b).length = 70 := by simp [allS, pre, asks]
theorem asks_fold (k : Nat) (v : Nat) : (asks k).foldl ostep v = v := by
  induction k with
  | zero => rfl
  | succ k ih => rw [asks_succ, List.foldl_append, ih]; rfl
theorem asks_take (i : Nat) (h : i ≤ 64) : (asks 64).take i = asks i := by
  unfold asks
  rw [← List.map_take, List.take_range, Nat.min_eq_left h]
def ov (s b : Nat) : Nat := (s ||| b) &&& (18446744073709551615 - b)
theorem ost_5 (s b i : Nat) (h : i ≤ 64) : ost (allS s b) (5 + i) = ov s b := by
  have e : (allS s b).take (5 + i) = pre s b ++ asks i := by
    unfold allS
    rw [List.take_append, List.take_of_length_le (by simp [pre]), List.take_append_of_le_length (by rw [asks_length]; simp [pre]; omega)]
    have : 5 + i - (pre s b).length = i := by simp [pre]
    rw [this, asks_take i h]
  unfold ost
  rw [e, List.foldl_append, asks_fold]
  simp [pre, ostep, ov]
theorem ost_4 (s b : Nat) : ost (allS s b) 4 = ov s b := by simp [ost, allS, pre, ostep, ov]
theorem ost_2 (s b : Nat) : ost (allS s b) 2 = s ||| b := by simp [ost, allS, pre, ostep]
theorem ost_70 (s b : Nat) : ost (allS s b) 70 = 0 := by
  rw [ost_succ _ 69 (by rw [allS_length]; omega)]
  have e : (allS s b)[69]'(by rw [allS_length]; omega) = (2, 0) := by
    unfold allS
    rw [List.getElem_append_right (by simp [pre]), List.getElem_append_right (by simp [pre, asks])]
    simp
  rw [e]; rfl
theorem at_5 (s b i : Nat) (h : i < 64) : (allS s b).getD (5 + i) (0, 0) = (4, 2 ^ i) := by
  unfold allS
  rw [List.getD_eq_getElem?_getD, List.getElem?_append_right (by simp [pre])]
  have : 5 + i - (pre s b).length = i := by simp [pre]
  rw [this, List.getElem?_append_left (by rw [asks_length]; exact h)]
  simp [asks, h]
theorem or_and_self (s b : Nat) : (s ||| b) &&& b = b := by
  apply Nat.eq_of_testBit_eq; intro i
  simp only [Nat.testBit_and, Nat.testBit_or]
  cases s.testBit i <;> cases b.testBit i <;> rfl
theorem not_bit (b : Nat) (hb : b < 18446744073709551616) (i : Nat) : (18446744073709551615 - b).testBit i = (decide (i < 64) && !b.testBit i) := by
  have e : 18446744073709551615 - b = 2 ^ 64 - (b + 1) := by omega
  rw [e, Nat.testBit_two_pow_sub_succ hb]
theorem ov_eq (s b : Nat) (hb : b < 18446744073709551616) : ov s b = s &&& (18446744073709551615 - b) := by
  unfold ov
  apply Nat.eq_of_testBit_eq; intro i
  simp only [Nat.testBit_and, Nat.testBit_or, not_bit b hb]
  cases s.testBit i <;> cases b.testBit i <;> simp
theorem ov_and (s b : Nat) (hb : b < 18446744073709551616) : ov s b &&& b = 0 := by
  unfold ov
  apply Nat.eq_of_testBit_eq; intro i
  simp only [Nat.testBit_and, Nat.testBit_or, not_bit b hb, Nat.zero_testBit]
  cases s.testBit i <;> cases b.testBit i <;> simp
theorem bit_ask (v k : Nat) : (v &&& 2 ^ k == 2 ^ k) = decide (v / 2 ^ k % 2 = 1) := by
  rw [nat_bit]
  have hp : 0 < 2 ^ k := Nat.two_pow_pos k
  rcases Nat.mod_two_eq_zero_or_one (v / 2 ^ k) with h | h
  · rw [h]; simp; omega
  · rw [h]; simp
theorem ov_lt (s b : Nat) (hs : s < 18446744073709551616) (hb : b < 18446744073709551616) : ov s b < 18446744073709551616 := and_lt _ (or_lt hs hb)
theorem allS_lt (s b : Nat) (hs : s < 18446744073709551616) (hb : b < 18446744073709551616) : ∀ x ∈ allS s b, x.2 < 18446744073709551616 := by
  intro x hx
  unfold allS at hx
  rcases List.mem_append.1 hx with h | h
  · simp [pre] at h
    rcases h with rfl | rfl | rfl | rfl | rfl <;> assumption
  · rcases List.mem_append.1 h with h | h
    · simp [asks] at h
      obtain ⟨i, hi, rfl⟩ := h
      have : (2 : Nat) ^ i ≤ 2 ^ 63 := Nat.pow_le_pow_right (by decide) (by omega)
      simp only
      omega
    · simp at h; subst h; decide
theorem oasks_get (xs : List (Int × Nat)) (n i : Nat) (h : i < n) : (oasks xs n)[i]? = some (.bool (oask (ost xs i) (xs.getD i (0, 0)))) := by
  unfold oasks; rw [List.getElem?_map, List.getElem?_range h]; rfl
theorem ovals_get (xs : List (Int × Nat)) (n i : Nat) (h : i < n) : (ovals xs n)[i]? = some (.int .u64 (ost xs (i + 1) : Nat)) := by
  unfold ovals; rw [List.getElem?_map, List.getElem?_range h]; rfl
end Go.Proofs.Ytefabkcfeekfiaa.Opt
