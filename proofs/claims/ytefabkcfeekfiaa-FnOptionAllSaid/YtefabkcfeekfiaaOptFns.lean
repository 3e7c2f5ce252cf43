/- The bits of options behind steps, in plain lists and numbers; no condition. -/
import Derived.Test.YtefabkcfeekfiaaK
set_option linter.unusedVariables false
set_option linter.unusedSimpArgs false
namespace Go.Proofs.Ytefabkcfeekfiaa.Opt
open Go.RowKit Go.Proofs.Ytefabkcfeekfiaa.K
/-- A step's cells. -/
def stv (x : Int × Nat) : List Value := [.int .i64 x.1, .int .u64 x.2]
def stvs (xs : List (Int × Nat)) : List Value := xs.flatMap stv
theorem stvs_length (xs : List (Int × Nat)) : (stvs xs).length = xs.length * 2 := by
  induction xs with
  | nil => rfl
  | cons x xs ih => simp [stvs, stv] at ih ⊢; omega
theorem stvs_append (xs ys : List (Int × Nat)) : stvs (xs ++ ys) = stvs xs ++ stvs ys := by simp [stvs]
theorem stvs_at (xs : List (Int × Nat)) (k : Nat) (h : k < xs.length) : (stvs xs)[k * 2]? = some (.int .i64 (xs[k]'h).1) ∧ (stvs xs)[k * 2 + 1]? = some (.int .u64 (xs[k]'h).2) := by
  induction xs generalizing k with
  | nil => simp at h
  | cons x xs ih =>
    cases k with
    | zero => simp [stvs, stv]
    | succ k =>
      have h' : k < xs.length := by simpa using h
      have := ih k h'
      have e1 : (k + 1) * 2 = k * 2 + 2 := by omega
      rw [e1]
      have e2 : stvs (x :: xs) = [.int .i64 x.1, .int .u64 x.2] ++ stvs xs := rfl
      rw [e2]
      constructor
      · rw [List.getElem?_append_right (by simp)]; simpa using this.1
      · rw [List.getElem?_append_right (by simp <;> omega)]
        have e3 : k * 2 + 2 + 1 - [Value.int .i64 x.1, Value.int .u64 x.2].length = k * 2 + 1 := by simp
        rw [e3]; simpa using this.2
theorem stvs_one (xs : List (Int × Nat)) : ∀ u ∈ stvs xs, u.oneCell' = true := by
  intro u hu
  simp only [stvs, List.mem_flatMap] at hu
  obtain ⟨x, _, hx⟩ := hu
  simp only [stv, List.mem_cons, List.not_mem_nil, or_false] at hx
  rcases hx with rfl | rfl <;> rfl
/-- A set's bits behind a step. -/
def ostep (s : Nat) (x : Int × Nat) : Nat := if x.1 = 0 then s ||| x.2 else if x.1 = 1 then s &&& (18446744073709551615 - x.2) else if x.1 = 2 then 0 else if x.1 = 3 then x.2 else s
def oask (s : Nat) (x : Int × Nat) : Bool := if x.1 = 4 then s &&& x.2 == x.2 else false
def ost (xs : List (Int × Nat)) (k : Nat) : Nat := (xs.take k).foldl ostep 0
def ovals (xs : List (Int × Nat)) (k : Nat) : List Value := (List.range k).map fun i => .int .u64 (ost xs (i + 1))
def oasks (xs : List (Int × Nat)) (k : Nat) : List Value := (List.range k).map fun i => .bool (oask (ost xs i) (xs.getD i (0, 0)))
theorem ost_succ (xs : List (Int × Nat)) (k : Nat) (h : k < xs.length) : ost xs (k + 1) = ostep (ost xs k) (xs[k]'h) := by
  unfold ost
  rw [List.take_succ_eq_append_getElem h, List.foldl_append]
  rfl
theorem ovals_succ (xs : List (Int × Nat)) (k : Nat) : ovals xs (k + 1) = ovals xs k ++ [.int .u64 (ost xs (k + 1))] := by simp [ovals, List.range_succ]
theorem oasks_succ (xs : List (Int × Nat)) (k : Nat) (h : k < xs.length) : oasks xs (k + 1) = oasks xs k ++ [.bool (oask (ost xs k) (xs[k]'h))] := by simp [oasks, List.range_succ, h]
theorem or_lt {a b : Nat} (ha : a < 18446744073709551616) (hb : b < 18446744073709551616) : a ||| b < 18446744073709551616 := Nat.or_lt_two_pow (n := 64) ha hb
theorem and_lt {a : Nat} (b : Nat) (ha : a < 18446744073709551616) : a &&& b < 18446744073709551616 := Nat.lt_of_le_of_lt Nat.and_le_left ha
theorem ostep_lt {s : Nat} {x : Int × Nat} (hs : s < 18446744073709551616) (hx : x.2 < 18446744073709551616) : ostep s x < 18446744073709551616 := by
  unfold ostep
  split
  · exact or_lt hs hx
  · split
    · exact and_lt _ hs
    · split
      · decide
      · split
        · exact hx
        · exact hs
theorem foldl_lt (xs : List (Int × Nat)) (h : ∀ x ∈ xs, x.2 < 18446744073709551616) : ∀ s, s < 18446744073709551616 → xs.foldl ostep s < 18446744073709551616 := by
  induction xs with
  | nil => exact fun s hs => hs
  | cons x xs ih => exact fun s hs => ih (fun y hy => h y (List.mem_cons_of_mem _ hy)) _ (ostep_lt hs (h x (List.mem_cons_self ..)))
theorem ost_lt (xs : List (Int × Nat)) (h : ∀ x ∈ xs, x.2 < 18446744073709551616) (k : Nat) : ost xs k < 18446744073709551616 :=
  foldl_lt _ (fun x hx => h x (List.mem_of_mem_take hx)) 0 (by decide)
end Go.Proofs.Ytefabkcfeekfiaa.Opt
