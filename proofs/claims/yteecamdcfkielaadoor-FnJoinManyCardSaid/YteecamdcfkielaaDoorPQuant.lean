/- One quantum of base64 in plain lists; no condition. -/
import Derived.Test.YteecamdcfkielaaDoorPMath
set_option linter.unusedVariables false
set_option linter.unusedSimpArgs false
namespace Go.Proofs.YteecamdcfkielaaDoor.B64
open Go.Proofs.YteecamdcfkielaaDoor.Own
/-- One quantum: what it gives, and how many letters it takes; none for an error. -/
def quantR (f : UInt8 → Nat) (pad : Bool) (r : List UInt8) : Option (List UInt8 × Nat) :=
  if 4 ≤ r.length ∧ ok4 f (bt r 0) (bt r 1) (bt r 2) (bt r 3) = true then some (by3 (n4 (f (bt r 0)) (f (bt r 1)) (f (bt r 2)) (f (bt r 3))), 4)
  else (tailD f pad r).map fun x => (x, r.length)
theorem list1 (r : List UInt8) (h : r.length = 1) : r = [bt r 0] := by
  match r, h with
  | [a], _ => rfl
theorem list2 (r : List UInt8) (h : r.length = 2) : r = [bt r 0, bt r 1] := by
  match r, h with
  | [a, b], _ => rfl
theorem list3 (r : List UInt8) (h : r.length = 3) : r = [bt r 0, bt r 1, bt r 2] := by
  match r, h with
  | [a, b, c], _ => rfl
theorem list4 (r : List UInt8) (h : r.length = 4) : r = [bt r 0, bt r 1, bt r 2, bt r 3] := by
  match r, h with
  | [a, b, c, d], _ => rfl
theorem tailD_1 (f : UInt8 → Nat) (pad : Bool) (r : List UInt8) (h : r.length ≤ 1) : tailD f pad r = none := by
  match r, h with
  | [], _ => rfl
  | [a], _ => rfl
theorem tailD_5 (f : UInt8 → Nat) (pad : Bool) (r : List UInt8) (h : 4 < r.length) : tailD f pad r = none := by
  match r, h with
  | a :: b :: c :: d :: e :: r, _ => rfl
theorem q_4 {f : UInt8 → Nat} {pad : Bool} {r : List UInt8} (h : 4 ≤ r.length) (h0 : f (bt r 0) < 64) (h1 : f (bt r 1) < 64) (h2 : f (bt r 2) < 64) (h3 : f (bt r 3) < 64) :
    quantR f pad r = some (by3 (n4 (f (bt r 0)) (f (bt r 1)) (f (bt r 2)) (f (bt r 3))), 4) := by
  rw [quantR, if_pos ⟨h, by simp [ok4, h0, h1, h2, h3]⟩]
theorem q_end1 {f : UInt8 → Nat} {pad : Bool} {r : List UInt8} (h : r.length = 1) : quantR f pad r = none := by
  rw [quantR, if_neg (by omega), tailD_1 _ _ _ (by omega)]; rfl
theorem q_endpad {f : UInt8 → Nat} {r : List UInt8} (h : r.length < 4) : quantR f true r = none := by
  rw [quantR, if_neg (by omega)]
  match r, h with
  | [], _ => rfl
  | [a], _ => rfl
  | [a, b], _ => simp [tailD]
  | [a, b, c], _ => simp [tailD]
theorem q_end2 {f : UInt8 → Nat} {r : List UInt8} (h : r.length = 2) (h0 : f (bt r 0) < 64) (h1 : f (bt r 1) < 64) : quantR f false r = some ((by3 (n4 (f (bt r 0)) (f (bt r 1)) 0 0)).take 1, 2) := by
  rw [quantR, if_neg (by omega), h]
  match r, h, h0, h1 with
  | [a, b], _, h0, h1 =>
    have h0 : f a < 64 := h0
    have h1 : f b < 64 := h1
    simp [tailD, h0, h1, bt]
theorem q_end3 {f : UInt8 → Nat} {r : List UInt8} (h : r.length = 3) (h0 : f (bt r 0) < 64) (h1 : f (bt r 1) < 64) (h2 : f (bt r 2) < 64) : quantR f false r = some ((by3 (n4 (f (bt r 0)) (f (bt r 1)) (f (bt r 2)) 0)).take 2, 3) := by
  rw [quantR, if_neg (by omega), h]
  match r, h, h0, h1, h2 with
  | [a, b, c], _, h0, h1, h2 =>
    have h0 : f a < 64 := h0
    have h1 : f b < 64 := h1
    have h2 : f c < 64 := h2
    simp [tailD, h0, h1, h2, bt]
/-- A letter that is none: an error, but for padding. -/
theorem q_bad {f : UInt8 → Nat} {pad : Bool} {r : List UInt8} (k : Nat) (hk : k < r.length) (hk4 : k < 4) (hb : ¬ f (bt r k) < 64) (hp : pad = false ∨ bt r k ≠ 61 ∨ k ≤ 1) : quantR f pad r = none := by
  have hno : ¬ (4 ≤ r.length ∧ ok4 f (bt r 0) (bt r 1) (bt r 2) (bt r 3) = true) := by
    rintro ⟨h4, ho⟩
    simp only [ok4, Bool.and_eq_true, decide_eq_true_eq] at ho
    obtain ⟨⟨⟨h0, h1⟩, h2⟩, h3⟩ := ho
    match k, hk4, hb with
    | 0, _, hb => exact hb h0
    | 1, _, hb => exact hb h1
    | 2, _, hb => exact hb h2
    | 3, _, hb => exact hb h3
  rw [quantR, if_neg hno]
  match r, hk, hb, hp with
  | [a], hk, hb, hp => rfl
  | [a, b], hk, hb, hp =>
    match k, hk, hb, hp with
    | 0, _, hb, _ =>
      have hb : ¬ f a < 64 := hb
      simp [tailD, hb]
    | 1, _, hb, _ =>
      have hb : ¬ f b < 64 := hb
      simp [tailD, hb]
  | [a, b, c], hk, hb, hp =>
    match k, hk, hb, hp with
    | 0, _, hb, _ =>
      have hb : ¬ f a < 64 := hb
      simp [tailD, hb]
    | 1, _, hb, _ =>
      have hb : ¬ f b < 64 := hb
      simp [tailD, hb]
    | 2, _, hb, _ =>
      have hb : ¬ f c < 64 := hb
      simp [tailD, hb]
  | [a, b, c, d], hk, hb, hp =>
    match k, hk, hb, hp with
    | 0, _, hb, _ =>
      have hb : ¬ f a < 64 := hb
      simp [tailD, hb]
    | 1, _, hb, _ =>
      have hb : ¬ f b < 64 := hb
      simp [tailD, hb]
    | 2, _, hb, hp =>
      have hb : ¬ f c < 64 := hb
      rcases hp with rfl | hp | hp
      · simp [tailD]
      · have hp : ¬ c = 61 := hp
        simp [tailD, hb, hp]
      · omega
    | 3, _, hb, hp =>
      rcases hp with rfl | hp | hp
      · simp [tailD]
      · have hp : ¬ d = 61 := hp
        simp [tailD, hp]
      · omega
  | a :: b :: c :: d :: e :: r, _, _, _ => rfl
theorem q_pad2 {f : UInt8 → Nat} {r : List UInt8} (h4 : r.length = 4) (hf : f 61 = 255) (h0 : f (bt r 0) < 64) (h1 : f (bt r 1) < 64) (h2 : bt r 2 = 61) (h3 : bt r 3 = 61) : quantR f true r = some ((by3 (n4 (f (bt r 0)) (f (bt r 1)) 0 0)).take 1, 4) := by
  rw [quantR, if_neg (by rintro ⟨_, ho⟩; rw [h2, ok4, hf] at ho; simp at ho)]
  match r, h4, h0, h1, h2, h3 with
  | [a, b, c, d], _, h0, h1, h2, h3 =>
    have g0 : f a < 64 := h0
    have g1 : f b < 64 := h1
    obtain rfl : c = 61 := h2
    obtain rfl : d = 61 := h3
    simp [tailD, g0, g1, bt]
theorem q_pad2bad {f : UInt8 → Nat} {r : List UInt8} (h4 : 4 ≤ r.length) (hf : f 61 = 255) (h2 : bt r 2 = 61) (h3 : bt r 3 ≠ 61 ∨ 4 < r.length) : quantR f true r = none := by
  rw [quantR, if_neg (by rintro ⟨_, ho⟩; rw [h2, ok4, hf] at ho; simp at ho)]
  by_cases h5 : 4 < r.length
  · rw [tailD_5 _ _ _ h5]; rfl
  · have e := list4 r (by omega)
    rcases h3 with h3 | h3
    · rw [e]
      simp [tailD, h3]
    · omega
theorem q_pad3 {f : UInt8 → Nat} {r : List UInt8} (h4 : r.length = 4) (hf : f 61 = 255) (h0 : f (bt r 0) < 64) (h1 : f (bt r 1) < 64) (h2 : f (bt r 2) < 64) (h3 : bt r 3 = 61) : quantR f true r = some ((by3 (n4 (f (bt r 0)) (f (bt r 1)) (f (bt r 2)) 0)).take 2, 4) := by
  rw [quantR, if_neg (by rintro ⟨_, ho⟩; rw [h3, ok4, hf] at ho; simp at ho)]
  have hne : bt r 2 ≠ 61 := fun h => by rw [h, hf] at h2; omega
  match r, h4, h0, h1, h2, h3, hne with
  | [a, b, c, d], _, h0, h1, h2, h3, hne =>
    have g0 : f a < 64 := h0
    have g1 : f b < 64 := h1
    have g2 : f c < 64 := h2
    have gne : ¬ c = 61 := hne
    obtain rfl : d = 61 := h3
    simp [tailD, g0, g1, g2, gne, bt]
theorem q_pad3bad {f : UInt8 → Nat} {r : List UInt8} (h4 : 4 < r.length) (hf : f 61 = 255) (h3 : bt r 3 = 61) : quantR f true r = none := by
  rw [quantR, if_neg (by rintro ⟨_, ho⟩; rw [h3, ok4, hf] at ho; simp at ho), tailD_5 _ _ _ h4]; rfl
/-- The join of four letters. -/
theorem by3_at (v : Nat) (h : v < 16777216) : by3 v = [UInt8.ofNat (v / 65536 % 256), UInt8.ofNat (v / 256 % 256), UInt8.ofNat (v % 256)] := by
  unfold by3
  congr 1
  · apply UInt8.toNat_inj.1; simp
  · congr 1
    · apply UInt8.toNat_inj.1; simp
    · congr 1
      apply UInt8.toNat_inj.1; simp
theorem dec_step {f : UInt8 → Nat} {pad : Bool} {r : List UInt8} (h : r ≠ []) :
    decL f pad r = match quantR f pad r with
      | none => none
      | some (out, m) => (decL f pad (r.drop m)).map (out ++ ·) := by
  match r, h with
  | [a], _ => rw [q_end1 rfl]; rfl
  | [a, b], _ =>
    rw [quantR, if_neg (by simp)]
    cases ht : tailD f pad [a, b] <;> simp [decL, ht]
  | [a, b, c], _ =>
    rw [quantR, if_neg (by simp)]
    cases ht : tailD f pad [a, b, c] <;> simp [decL, ht]
  | a :: b :: c :: d :: r, _ =>
    rw [decL, quantR]
    simp only [bt, List.getD_cons_zero, List.getD_cons_succ]
    by_cases hk : ok4 f a b c d = true
    · rw [if_pos hk, if_pos ⟨by simp, hk⟩]
      rfl
    · rw [if_neg hk, if_neg (by rintro ⟨_, h⟩; exact hk h)]
      cases ht : tailD f pad (a :: b :: c :: d :: r) <;> simp [decL]
end Go.Proofs.YteecamdcfkielaaDoor.B64
