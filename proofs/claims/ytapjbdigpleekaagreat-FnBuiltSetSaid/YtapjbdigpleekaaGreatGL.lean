import Derived.Sort.LotA
import Derived.Test.YtapjbdigpleekaaGreatProg
import Derived.Test.YtapjbdigpleekaaGreatK
import Derived.Shelf.SlSortCmp.InsertionK
import Derived.Deep.LoopGhost
import Derived.Deep.Cut
import Derived.Deep.CutRange
import Derived.Deep.CutBlock
import Derived.Deep.DeepCutAuto
import Derived.BigRegion
import Derived.Lib.LazyBuf
import Derived.Great.Walk
import Derived.StillTailTactics
/- Plain laws of slices.SortStableFunc's merging (swapRange, rotate, symMerge) over arrays; no program in sight. -/
set_option linter.unusedVariables false
set_option linter.unusedSimpArgs false
set_option linter.unusedSectionVars false
namespace Go.Proofs.YtapjbdigpleekaaGreat.St
open Go.Sort
variable {α : Type} [Inhabited α]
/-- n exchanges side by side. -/
def swapR (d : Array α) (a b : Nat) : Nat → Array α
  | 0 => d
  | n + 1 => swp (swapR d a b n) (a + n) (b + n)
theorem swapR_size (d : Array α) (a b : Nat) : ∀ n, (swapR d a b n).size = d.size
  | 0 => rfl
  | n + 1 => by rw [swapR, swp_size, swapR_size d a b n]
theorem swapR_get (d : Array α) (a b : Nat) : ∀ n, a + n ≤ b → b + n ≤ d.size → ∀ x, (swapR d a b n)[x]! = if a ≤ x ∧ x < a + n then d[b + (x - a)]! else if b ≤ x ∧ x < b + n then d[a + (x - b)]! else d[x]!
  | 0, _, _, x => by rw [swapR, if_neg (by omega), if_neg (by omega)]
  | n + 1, h1, h2, x => by
    have ih := swapR_get d a b n (by omega) (by omega)
    rw [swapR, swp_get _ (by rw [swapR_size]; omega) (by rw [swapR_size]; omega)]
    by_cases e1 : x = b + n
    · subst e1
      rw [if_pos rfl, ih (a + n), if_neg (by omega), if_neg (by omega), if_neg (by omega), if_pos (by omega)]
      congr 1; omega
    · rw [if_neg e1]
      by_cases e2 : x = a + n
      · subst e2
        rw [if_pos rfl, ih (b + n), if_neg (by omega), if_neg (by omega), if_pos (by omega)]
        congr 1; omega
      · rw [if_neg e2, ih x]
        (repeat' split) <;> first | rfl | (exfalso; omega) | (congr 1; omega)
theorem swapR_perm (d : Array α) (a b lo hi : Nat) (hlo : lo ≤ a) (hd : hi ≤ d.size) : ∀ n, a + n ≤ b → b + n ≤ hi → PermIn lo hi d (swapR d a b n)
  | 0, _, _ => permIn_refl d lo hi
  | n + 1, h1, h2 => permIn_trans _ _ _ lo hi (swapR_perm d a b lo hi hlo hd n (by omega) (by omega)) (swp_permIn _ lo hi (a + n) (b + n) (by omega) (by omega) (by omega) (by omega) (by rw [swapR_size]; omega))
/-- d' is d with [a, m) and [m, b) in the other order. -/
def Rot (d d' : Array α) (a m b : Nat) : Prop := d'.size = d.size ∧ ∀ x, d'[x]! = if a ≤ x ∧ x < a + (b - m) then d[m + (x - a)]! else if a + (b - m) ≤ x ∧ x < b then d[x - (b - m)]! else d[x]!
theorem rot_left (d : Array α) (m b : Nat) (h : m ≤ b) : Rot d d m m b := ⟨rfl, fun x => by
  by_cases c : m ≤ x ∧ x < m + (b - m)
  · rw [if_pos c]; congr 1; omega
  · rw [if_neg c, if_neg (by omega)]⟩
theorem rot_right (d : Array α) (a m : Nat) (h : a ≤ m) : Rot d d a m m := ⟨rfl, fun x => by
  rw [if_neg (by omega)]
  by_cases c : a + (m - m) ≤ x ∧ x < m
  · rw [if_pos c]; congr 1; omega
  · rw [if_neg c]⟩
theorem rot_eq (d : Array α) (m i : Nat) (hi : i ≤ m) (hd : m + i ≤ d.size) : Rot d (swapR d (m - i) m i) (m - i) m (m + i) := ⟨swapR_size _ _ _ _, fun x => by
  rw [swapR_get d (m - i) m i (by omega) hd]
  (repeat' split) <;> first | rfl | (exfalso; omega) | (congr 1; omega)⟩
theorem rot_gt {d d' : Array α} {m i j : Nat} (hj : j < i) (hi : i ≤ m) (hd : m + j ≤ d.size) (h : Rot (swapR d (m - i) m j) d' (m - (i - j)) m (m + j)) : Rot d d' (m - i) m (m + j) := by
  refine ⟨h.1.trans (swapR_size _ _ _ _), fun x => ?_⟩
  have g := swapR_get d (m - i) m j (by omega) hd
  rw [h.2 x]
  by_cases c1 : m - (i - j) ≤ x ∧ x < m - (i - j) + (m + j - m)
  · rw [if_pos c1, g, if_neg (by omega), if_pos (by omega), if_neg (by omega), if_pos (by omega)]
    congr 1; omega
  · rw [if_neg c1]
    by_cases c2 : m - (i - j) + (m + j - m) ≤ x ∧ x < m + j
    · rw [if_pos c2, g, if_neg (by omega), if_neg (by omega), if_neg (by omega), if_pos (by omega)]
    · rw [if_neg c2, g]
      by_cases c3 : m - i ≤ x ∧ x < m - i + j
      · rw [if_pos c3, if_pos (by omega)]
      · rw [if_neg c3, if_neg (by omega), if_neg (by omega), if_neg (by omega)]
theorem rot_lt {d d' : Array α} {m i j : Nat} (hj : i < j) (hi : i ≤ m) (hd : m + j ≤ d.size) (h : Rot (swapR d (m - i) (m + j - i) i) d' (m - i) m (m + (j - i))) : Rot d d' (m - i) m (m + j) := by
  refine ⟨h.1.trans (swapR_size _ _ _ _), fun x => ?_⟩
  have g := swapR_get d (m - i) (m + j - i) i (by omega) (by omega)
  rw [h.2 x]
  by_cases c1 : m - i ≤ x ∧ x < m - i + (m + (j - i) - m)
  · rw [if_pos c1, g, if_neg (by omega), if_neg (by omega), if_pos (by omega)]
  · rw [if_neg c1]
    by_cases c2 : m - i + (m + (j - i) - m) ≤ x ∧ x < m + (j - i)
    · rw [if_pos c2, g, if_pos (by omega), if_pos (by omega)]
      congr 1; omega
    · rw [if_neg c2, g, if_neg (by omega)]
      by_cases c3 : m + j - i ≤ x ∧ x < m + j - i + i
      · rw [if_pos c3, if_neg (by omega), if_pos (by omega)]
        congr 1; omega
      · rw [if_neg c3, if_neg (by omega), if_neg (by omega)]
variable {lt : α → α → Bool}
theorem le_lt (h : SWO lt) {a b c : α} (h1 : lt b a = false) (h2 : lt b c = true) : lt a c = true := by
  cases e : lt a c with
  | true => rfl
  | false => rw [h.ntrans b a c h1 e] at h2; cases h2
theorem lt_le (h : SWO lt) {a b c : α} (h1 : lt a b = true) (h2 : lt c b = false) : lt a c = true := by
  cases e : lt a c with
  | true => rfl
  | false => rw [h.ntrans a c b e h2] at h1; cases h1
/-- The search for the place of x among d[m..b): behind those that are less. -/
def SrchA (lt : α → α → Bool) (d : Array α) (x : α) (m b i j : Nat) : Prop := m ≤ i ∧ i ≤ j ∧ j ≤ b ∧ (∀ h, m ≤ h → h < i → lt d[h]! x = true) ∧ (∀ h, j ≤ h → h < b → lt d[h]! x = false)
theorem SrchA.up (hS : SWO lt) {d : Array α} {x : α} {m b i j h : Nat} (hs : SrchA lt d x m b i j) (hd : SortedIn lt m b d) (h1 : i ≤ h) (h2 : h < j) (hl : lt d[h]! x = true) : SrchA lt d x m b (h + 1) j := by
  obtain ⟨a1, a2, a3, a4, a5⟩ := hs
  refine ⟨by omega, by omega, a3, fun k hk1 hk2 => ?_, a5⟩
  by_cases e : k = h
  · rw [e]; exact hl
  · exact le_lt hS (hd k h hk1 (by omega) (by omega)) hl
theorem SrchA.down (hS : SWO lt) {d : Array α} {x : α} {m b i j h : Nat} (hs : SrchA lt d x m b i j) (hd : SortedIn lt m b d) (h1 : i ≤ h) (h2 : h < j) (hl : lt d[h]! x = false) : SrchA lt d x m b i h := by
  obtain ⟨a1, a2, a3, a4, a5⟩ := hs
  refine ⟨a1, h1, by omega, a4, fun k hk1 hk2 => ?_⟩
  by_cases e : k = h
  · rw [e]; exact hl
  · exact hS.ntrans _ _ _ (hd h k (by omega) (by omega) hk2) hl
/-- The search for the place of x among d[a..m): behind those that are not more. -/
def SrchB (lt : α → α → Bool) (d : Array α) (x : α) (a m i j : Nat) : Prop := a ≤ i ∧ i ≤ j ∧ j ≤ m ∧ (∀ h, a ≤ h → h < i → lt x d[h]! = false) ∧ (∀ h, j ≤ h → h < m → lt x d[h]! = true)
theorem SrchB.up (hS : SWO lt) {d : Array α} {x : α} {a m i j h : Nat} (hs : SrchB lt d x a m i j) (hd : SortedIn lt a m d) (h1 : i ≤ h) (h2 : h < j) (hl : lt x d[h]! = false) : SrchB lt d x a m (h + 1) j := by
  obtain ⟨a1, a2, a3, a4, a5⟩ := hs
  refine ⟨by omega, by omega, a3, fun k hk1 hk2 => ?_, a5⟩
  by_cases e : k = h
  · rw [e]; exact hl
  · exact hS.ntrans _ _ _ hl (hd k h hk1 (by omega) (by omega))
theorem SrchB.down (hS : SWO lt) {d : Array α} {x : α} {a m i j h : Nat} (hs : SrchB lt d x a m i j) (hd : SortedIn lt a m d) (h1 : i ≤ h) (h2 : h < j) (hl : lt x d[h]! = true) : SrchB lt d x a m i h := by
  obtain ⟨a1, a2, a3, a4, a5⟩ := hs
  refine ⟨a1, h1, by omega, a4, fun k hk1 hk2 => ?_⟩
  by_cases e : k = h
  · rw [e]; exact hl
  · exact lt_le hS hl (hd h k (by omega) (by omega) hk2)
/-- An element goes up one place. -/
theorem rot_up {d dk : Array α} {a k : Nat} (h : Rot d dk a (a + 1) (k + 1)) (hak : a ≤ k) (hk : k + 1 < d.size) : Rot d (swp dk k (k + 1)) a (a + 1) (k + 2) := by
  have hs : dk.size = d.size := h.1
  refine ⟨by rw [swp_size, hs], fun x => ?_⟩
  rw [swp_get _ (by omega) (by omega)]
  by_cases e1 : x = k + 1
  · subst e1
    rw [if_pos rfl, h.2 k, if_neg (by omega), if_pos (by omega), if_neg (by omega), if_pos (by omega)]
    congr 1; omega
  · rw [if_neg e1]
    by_cases e2 : x = k
    · subst e2
      rw [if_pos rfl, h.2 (x + 1), if_neg (by omega), if_neg (by omega), if_pos (by omega)]
      congr 1; omega
    · rw [if_neg e2, h.2 x]
      by_cases c : a ≤ x ∧ x < a + (k + 1 - (a + 1))
      · rw [if_pos c, if_pos (by omega)]
      · rw [if_neg c, if_neg (by omega), if_neg (by omega), if_neg (by omega)]
/-- An element goes down one place. -/
theorem rot_down {d dk : Array α} {m k : Nat} (h : Rot d dk (k + 1) m (m + 1)) (hkm : k + 1 ≤ m) (hm : m < d.size) : Rot d (swp dk (k + 1) k) k m (m + 1) := by
  have hs : dk.size = d.size := h.1
  refine ⟨by rw [swp_size, hs], fun x => ?_⟩
  rw [swp_get _ (by omega) (by omega)]
  by_cases e1 : x = k
  · subst e1
    rw [if_pos rfl, h.2 (x + 1), if_pos (by omega), if_pos (by omega)]
    congr 1; omega
  · rw [if_neg e1]
    by_cases e2 : x = k + 1
    · subst e2
      rw [if_pos rfl, h.2 k, if_neg (by omega), if_neg (by omega), if_neg (by omega), if_pos (by omega)]
      congr 1; omega
    · rw [if_neg e2, h.2 x]
      by_cases c : k + 1 + (m + 1 - m) ≤ x ∧ x < m + 1
      · rw [if_neg (by omega), if_pos c, if_neg (by omega), if_pos (by omega)]
      · rw [if_neg (by omega), if_neg c, if_neg (by omega), if_neg (by omega)]
theorem insA (hS : SWO lt) {d d' : Array α} {a b i : Nat} (hd : SortedIn lt (a + 1) b d) (hs : SrchA lt d d[a]! (a + 1) b i i) (hr : Rot d d' a (a + 1) i) : SortedIn lt a b d' := by
  obtain ⟨a1, _, a3, a4, a5⟩ := hs
  intro p q hp hpq hq
  rw [hr.2 p, hr.2 q]
  by_cases cp : p < i - 1
  · rw [if_pos (show a ≤ p ∧ p < a + (i - (a + 1)) by omega)]
    by_cases cq : q < i - 1
    · rw [if_pos (show a ≤ q ∧ q < a + (i - (a + 1)) by omega)]
      exact hd _ _ (by omega) (by omega) (by omega)
    · rw [if_neg (show ¬ (a ≤ q ∧ q < a + (i - (a + 1))) by omega)]
      by_cases cq2 : q = i - 1
      · rw [if_pos (show a + (i - (a + 1)) ≤ q ∧ q < i by omega), show q - (i - (a + 1)) = a by omega]
        have := a4 (a + 1 + (p - a)) (by omega) (by omega)
        exact hS.asymmA this
      · rw [if_neg (show ¬ (a + (i - (a + 1)) ≤ q ∧ q < i) by omega)]
        exact hd _ _ (by omega) (by omega) hq
  · rw [if_neg (show ¬ (a ≤ p ∧ p < a + (i - (a + 1))) by omega), if_neg (show ¬ (a ≤ q ∧ q < a + (i - (a + 1))) by omega), if_neg (show ¬ (a + (i - (a + 1)) ≤ q ∧ q < i) by omega)]
    by_cases cp2 : p = i - 1
    · rw [if_pos (show a + (i - (a + 1)) ≤ p ∧ p < i by omega), show p - (i - (a + 1)) = a by omega]
      exact a5 q (by omega) hq
    · rw [if_neg (show ¬ (a + (i - (a + 1)) ≤ p ∧ p < i) by omega)]
      exact hd _ _ (by omega) hpq hq
theorem insB (hS : SWO lt) {d d' : Array α} {a m i : Nat} (hd : SortedIn lt a m d) (hs : SrchB lt d d[m]! a m i i) (hr : Rot d d' i m (m + 1)) : SortedIn lt a (m + 1) d' := by
  obtain ⟨a1, _, a3, a4, a5⟩ := hs
  intro p q hp hpq hq
  rw [hr.2 p, hr.2 q]
  by_cases cp : p < i
  · rw [if_neg (show ¬ (i ≤ p ∧ p < i + (m + 1 - m)) by omega), if_neg (show ¬ (i + (m + 1 - m) ≤ p ∧ p < m + 1) by omega)]
    by_cases cq : q < i
    · rw [if_neg (show ¬ (i ≤ q ∧ q < i + (m + 1 - m)) by omega), if_neg (show ¬ (i + (m + 1 - m) ≤ q ∧ q < m + 1) by omega)]
      exact hd _ _ hp hpq (by omega)
    · by_cases cq2 : q = i
      · rw [if_pos (show i ≤ q ∧ q < i + (m + 1 - m) by omega), show m + (q - i) = m by omega]
        exact a4 p hp cp
      · rw [if_neg (show ¬ (i ≤ q ∧ q < i + (m + 1 - m)) by omega), if_pos (show i + (m + 1 - m) ≤ q ∧ q < m + 1 by omega)]
        exact hd _ _ hp (by omega) (by omega)
  · by_cases cp2 : p = i
    · rw [if_pos (show i ≤ p ∧ p < i + (m + 1 - m) by omega), show m + (p - i) = m by omega, if_neg (show ¬ (i ≤ q ∧ q < i + (m + 1 - m)) by omega), if_pos (show i + (m + 1 - m) ≤ q ∧ q < m + 1 by omega)]
      exact hS.asymmA (a5 (q - (m + 1 - m)) (by omega) (by omega))
    · rw [if_neg (show ¬ (i ≤ p ∧ p < i + (m + 1 - m)) by omega), if_pos (show i + (m + 1 - m) ≤ p ∧ p < m + 1 by omega), if_neg (show ¬ (i ≤ q ∧ q < i + (m + 1 - m)) by omega), if_pos (show i + (m + 1 - m) ≤ q ∧ q < m + 1 by omega)]
      exact hd _ _ (by omega) (by omega) (by omega)
/-- Where a merge is parted: s of the left half, e of the right one. -/
def Cut (a m b mid s e : Nat) : Prop := a ≤ s ∧ s ≤ m ∧ m ≤ e ∧ e ≤ b ∧ s + e = mid + m ∧ a ≤ mid ∧ mid ≤ b ∧ s ≤ mid ∧ mid ≤ e
theorem parts (hS : SWO lt) {d d1 : Array α} {a m b mid s e : Nat} (hc : Cut a m b mid s e) (h1 : SortedIn lt a m d) (h2 : SortedIn lt m b d) (f1 : a < s → e < b → lt d[e]! d[s - 1]! = false) (f2 : s < m → m < e → lt d[e - 1]! d[s]! = true) (hr : Rot d d1 s m e) :
    SortedIn lt a s d1 ∧ SortedIn lt s mid d1 ∧ SortedIn lt mid e d1 ∧ SortedIn lt e b d1 ∧ ∀ x y, a ≤ x → x < mid → mid ≤ y → y < b → lt d1[y]! d1[x]! = false := by
  obtain ⟨c1, c2, c3, c4, c5, c6, c7, c8, c9⟩ := hc
  have g1 : ∀ x, x < s → d1[x]! = d[x]! := fun x hx => by rw [hr.2 x, if_neg (by omega), if_neg (by omega)]
  have g2 : ∀ x, s ≤ x → x < mid → d1[x]! = d[m + (x - s)]! := fun x hx hx2 => by rw [hr.2 x, if_pos (by omega)]
  have g3 : ∀ x, mid ≤ x → x < e → d1[x]! = d[x - (e - m)]! := fun x hx hx2 => by rw [hr.2 x, if_neg (by omega), if_pos (by omega)]
  have g4 : ∀ x, e ≤ x → d1[x]! = d[x]! := fun x hx => by rw [hr.2 x, if_neg (by omega), if_neg (by omega)]
  have le1 : ∀ {p q}, a ≤ p → p ≤ q → q < m → lt d[q]! d[p]! = false := fun {p q} hp hpq hq => by
    rcases Nat.lt_or_eq_of_le hpq with h | h
    · exact h1 p q hp h hq
    · rw [h]; exact hS.irrefl _
  have le2 : ∀ {p q}, m ≤ p → p ≤ q → q < b → lt d[q]! d[p]! = false := fun {p q} hp hpq hq => by
    rcases Nat.lt_or_eq_of_le hpq with h | h
    · exact h2 p q hp h hq
    · rw [h]; exact hS.irrefl _
  refine ⟨fun p q hp hpq hq => ?_, fun p q hp hpq hq => ?_, fun p q hp hpq hq => ?_, fun p q hp hpq hq => ?_, fun x y hx hx2 hy hy2 => ?_⟩
  · rw [g1 p (by omega), g1 q hq]; exact h1 p q hp hpq (by omega)
  · rw [g2 p hp (by omega), g2 q (by omega) hq]; exact h2 _ _ (by omega) (by omega) (by omega)
  · rw [g3 p hp (by omega), g3 q (by omega) hq]; exact h1 _ _ (by omega) (by omega) (by omega)
  · rw [g4 p hp, g4 q (by omega)]; exact h2 _ _ (by omega) hpq hq
  · rcases Nat.lt_or_ge x s with hxs | hxs
    · rw [g1 x hxs]
      rcases Nat.lt_or_ge y e with hye | hye
      · rw [g3 y hy hye]; exact h1 _ _ hx (by omega) (by omega)
      · rw [g4 y hye]
        exact hS.ntrans _ _ _ (le2 (by omega) hye hy2) (hS.ntrans _ _ _ (f1 (by omega) (by omega)) (le1 hx (by omega) (by omega)))
    · rw [g2 x hxs hx2]
      rcases Nat.lt_or_ge y e with hye | hye
      · rw [g3 y hy hye]
        have q1 : lt d[m + (x - s)]! d[s]! = true := le_lt hS (le2 (show m ≤ m + (x - s) by omega) (show m + (x - s) ≤ e - 1 by omega) (by omega)) (f2 (by omega) (by omega))
        exact hS.asymmA (lt_le hS q1 (le1 c1 (show s ≤ y - (e - m) by omega) (by omega)))
      · rw [g4 y hye]; exact h2 _ _ (by omega) (by omega) hy2
theorem joined (hS : SWO lt) {d1 d2 d3 : Array α} {a mid b : Nat} (ha : a ≤ mid) (hb : mid ≤ b) (hsz : b ≤ d1.size) (hx : ∀ x y, a ≤ x → x < mid → mid ≤ y → y < b → lt d1[y]! d1[x]! = false) (p1 : PermIn a mid d1 d2) (s1 : SortedIn lt a mid d2) (p2 : PermIn mid b d2 d3) (s2 : SortedIn lt mid b d3) :
    PermIn a b d1 d3 ∧ SortedIn lt a b d3 := by
  have hz2 : d2.size = d1.size := p1.1
  refine ⟨permIn_trans _ _ _ a b (permIn_mono d1 d2 a mid a b (Nat.le_refl _) hb hsz p1) (permIn_mono d2 d3 mid b a b ha (Nat.le_refl _) (by omega) p2), fun p q hp hpq hq => ?_⟩
  have x2 : ∀ x y, a ≤ x → x < mid → mid ≤ y → y < b → lt d2[y]! d2[x]! = false := fun x y h1 h2 h3 h4 => by
    rw [p1.2.1 y (.inr h3)]
    exact permIn_all d1 d2 a mid (fun v => lt d1[y]! v = false) (by omega) p1 (fun i hi1 hi2 => hx i y hi1 hi2 h3 h4) x h1 h2
  have x3 : ∀ x y, a ≤ x → x < mid → mid ≤ y → y < b → lt d3[y]! d3[x]! = false := fun x y h1 h2 h3 h4 => by
    rw [p2.2.1 x (.inl h2)]
    exact permIn_all d2 d3 mid b (fun v => lt v d2[x]! = false) (by omega) p2 (fun i hi1 hi2 => x2 x i h1 h2 hi1 hi2) y h3 h4
  rcases Nat.lt_or_ge q mid with hqm | hqm
  · rw [p2.2.1 p (.inl (by omega)), p2.2.1 q (.inl hqm)]; exact s1 p q hp hpq hqm
  · rcases Nat.lt_or_ge p mid with hpm | hpm
    · exact x3 p q hp hpm hqm hq
    · exact s2 p q hpm hpq hq
end Go.Proofs.YtapjbdigpleekaaGreat.St

/- The walk of slices.swapRangeCmpFunc over fields (any program that bears the same bodies); the conditions are on places and on what lies in memory. -/
set_option linter.unusedVariables false
set_option linter.unusedSimpArgs false
namespace Go.Proofs.YtapjbdigpleekaaGreat.St
open Go.RowKit Go.Proofs.YtapjbdigpleekaaGreat.K Go.Sort Go.Lib
variable {α : Type} [Inhabited α] {P : Program} {k : Nat}
/-- A program that bears the bodies of the merging sort. -/
structure Lays (P : Program) (k : Nat) : Prop where
  mixed : P.follows .mixedOrders = true
  fSwap : P.funcs[127]? = some Tryz.f127
  fRot : P.funcs[126]? = some Tryz.f126
  fMrg : P.funcs[125]? = some Tryz.f125
  cSwap : ∀ args w, (callFunc 127 args).run P w = .ok (.enter 127 args) w
  cRot : ∀ args w, (callFunc 126 args).run P w = .ok (.enter 126 args) w
  cMrg : ∀ args w, (callFunc 125 args).run P w = .ok (.enter 125 args) w
  t_int : P.underlying 3 = some (TypeDesc.int IntKind.i64)
  a_int : ∀ w, (isAgg 3).run P w = .ok false w
  z_int : ∀ w, (Go.sizeOf 3).run P w = .ok 1 w
  v_int : ∀ w, (zeroValue 3).run P w = .ok (Value.int IntKind.i64 0) w
  t_u : P.underlying 185 = some (TypeDesc.int IntKind.u64)
  a_u : ∀ w, (isAgg 185).run P w = .ok false w
  z_u : ∀ w, (Go.sizeOf 185).run P w = .ok 1 w
  v_u : ∀ w, (zeroValue 185).run P w = .ok (Value.int IntKind.u64 0) w
  t_bool : P.underlying 4 = some (TypeDesc.bool)
  a_bool : ∀ w, (isAgg 4).run P w = .ok false w
  z_bool : ∀ w, (Go.sizeOf 4).run P w = .ok 1 w
  v_bool : ∀ w, (zeroValue 4).run P w = .ok (Value.bool false) w
  t_sl : P.underlying 22 = some (TypeDesc.slice 45)
  a_sl : ∀ w, (isAgg 22).run P w = .ok false w
  z_sl : ∀ w, (Go.sizeOf 22).run P w = .ok 1 w
  v_sl : ∀ w, (zeroValue 22).run P w = .ok (Value.slice none 0 0) w
  t_fn : P.underlying 166 = some (TypeDesc.func #[45, 45] #[3] false)
  a_fn : ∀ w, (isAgg 166).run P w = .ok false w
  z_fn : ∀ w, (Go.sizeOf 166).run P w = .ok 1 w
  v_fn : ∀ w, (zeroValue 166).run P w = .ok (Value.nilFunc) w
  aE : ∀ w, (isAgg 45).run P w = .ok true w
  zE : ∀ w, (Go.sizeOf 45).run P w = .ok k w
/-- What stays: the row of N structs of k cells that is sorted, in the block blk of w. -/
structure Base (enc : α → List Value) (k : Nat) (w : World) (blk off N : Nat) : Prop where
  hk : ∀ x, (enc x).length = k
  h1 : ∀ x, ∀ v ∈ enc x, v.oneCell' = true
  hH : ∃ d : Array α, d.size = N ∧ HoldsK enc k w blk off d
  hblk : blk < w.heap.size
  hN : N ≤ 100000
section
variable {enc : α → List Value} {w : World} {blk off N : Nat}
theorem Base.holds (B : Base enc k w blk off N) (m : Nat) (d : Array α) (os : Array Obj) (hd : d.size = N) : HoldsK enc k (sortWorldK enc k w blk off m d os) blk off d := by
  obtain ⟨d0, e, h⟩ := B.hH
  exact holdsK_sortWorldK_c enc k w blk off d0 d m os h B.hblk (hd.trans e.symm)
theorem bndk {x s k : Nat} (h : x < s) : x * k + k ≤ s * k := by
  have := Nat.mul_le_mul_right k (show x + 1 ≤ s from h)
  rwa [Nat.add_mul, Nat.one_mul] at this
/-- The facts of one exchange. -/
theorem Base.exch (P : Program) (B : Base enc k w blk off N) (m : Nat) (d : Array α) (os : Array Obj) (hd : d.size = N) (i j : Nat) (hi : i < N) (hj : j < N) {wq : World} (hwq : wq = (sortWorldK enc k w blk off m d os).drew) :
    Sem.run P (loadCellsFrom ⟨blk, off + j * k, none⟩ 0 k #[]) wq = .ok (enc d[j]!).toArray wq ∧ Sem.run P (loadCellsFrom ⟨blk, off + i * k, none⟩ 0 k #[]) wq = .ok (enc d[i]!).toArray wq ∧
    Sem.run P (storeCells ⟨blk, off + i * k, none⟩ (enc d[j]!) 0) wq = .ok () (wq.setCells blk (off + i * k) (enc d[j]!)) ∧
    Sem.run P (storeCells ⟨blk, off + j * k, none⟩ (enc d[i]!) 0) (wq.setCells blk (off + i * k) (enc d[j]!)) = .ok () (sortWorldK enc k w blk off (m + 1) (swp d i j) os) := by
  subst hwq
  have hh : HoldsK enc k (sortWorldK enc k w blk off m d os).drew blk off d := B.holds m d os hd
  refine ⟨run_loadCellsFrom_list _ _ _ _ k (B.hk _) (HoldsK.cells hh B.hk (by omega)), run_loadCellsFrom_list _ _ _ _ k (B.hk _) (HoldsK.cells hh B.hk (by omega)), stores_of_holds _ hh (i * k) _ (by rw [B.hk, size_flatK]; exact bndk (by omega)) (B.h1 _), ?_⟩
  have := stores_of_holds P (holds_setCells_c hh (i * k) (enc d[j]!) (by rw [B.hk, size_flatK]; exact bndk (by omega))) (j * k) (enc d[i]!) (by rw [B.hk, size_setMany, size_flatK]; exact bndk (by omega)) (B.h1 _)
  rw [sortWorldK_swp_c enc k w blk off B.hk m d os B.hblk i j (by omega) (by omega)] at this
  exact this
end
section
variable {enc : α → List Value} {w : World} {blk off N : Nat}
set_option maxHeartbeats 4000000 in
set_option maxRecDepth 1000000 in
theorem swapRange_calls (L : Lays P k) (B : Base enc k w blk off N) (cap : Nat) (fv : Value) (a b n m0 : Nat) (d : Array α) (os : Array Obj) (hd : d.size = N) (h1 : a + n ≤ b) (h2 : b + n ≤ N) :
    Calls P 127 #[.slice (some ⟨blk, off, none⟩) N cap, .int .i64 (a : Nat), .int .i64 (b : Nat), .int .i64 (n : Nat), fv] (sortWorldK enc k w blk off m0 d os) fun e w' => e = .returned (.tuple #[]) ∧ ∃ m, w' = sortWorldK enc k w blk off m (swapR d a b n) os := by
  have mixed := L.mixed; have t0 := L.t_int; have a0 := L.a_int; have z0 := L.z_int; have v0 := L.v_int; have t1 := L.t_bool; have a1 := L.a_bool; have z1 := L.z_bool; have v1 := L.v_bool; have t2 := L.t_sl; have a2 := L.a_sl; have z2 := L.z_sl; have v2 := L.v_sl; have t3 := L.t_fn; have a3 := L.a_fn; have z3 := L.z_fn; have v3 := L.v_fn; have t4 := L.t_u; have a4 := L.a_u; have z4 := L.z_u; have v4 := L.v_u; have aE := L.aE; have zE := L.zE; have c0' := L.cSwap; have c1' := L.cRot; have c2' := L.cMrg
  have u2 := run_underlying L.t_sl
  have F0 := L.fSwap
  have HB := Lib.hid B
  have hN := B.hN
  have HD := Lib.hid hd
  clear B hd L
  go_enter F0, Tryz.ntmps127
  go_wp2
  go_loopg [10] n (fun q u wr => ∃ i m : Nat, q + i = n ∧ u = .int .i64 (i : Nat) ∧ wr = sortWorldK enc k w blk off m (swapR d a b i) os)
  case atStart => exact ⟨0, m0, rfl, rfl, rfl⟩
  case round =>
    obtain ⟨i, m, hq, rfl, rfl⟩ := hrel
    by_cases hi : i < n
    · have hii : (i : Int) < (n : Int) := by omega
      obtain ⟨p, hp⟩ : ∃ p, p = a + i := ⟨_, rfl⟩
      obtain ⟨r, hr⟩ : ∃ r, r = b + i := ⟨_, rfl⟩
      have ep : (a : Int) + (i : Int) = (p : Nat) := by omega
      have er : (b : Int) + (i : Int) = (r : Nat) := by omega
      have hpN : (p : Int) < (N : Int) := by omega
      have hrN : (r : Int) < (N : Int) := by omega
      obtain ⟨wq, hwq⟩ : ∃ wq, wq = (sortWorldK enc k w blk off m (swapR d a b i) os) := ⟨_, rfl⟩
      obtain ⟨x1, x2, x3, x4⟩ := HB.out.exch P m (swapR d a b i) os (by rw [swapR_size]; exact HD.out) p r (by omega) (by omega) (wq := wq.drew) (by rw [hwq])
      rw [← hwq]
      have HW := Lib.hid (And.intro hwq (And.intro hp hr))
      obtain ⟨cp, hcp⟩ : ∃ c, c = enc (swapR d a b i)[p]! := ⟨_, rfl⟩
      obtain ⟨cr, hcr⟩ : ∃ c, c = enc (swapR d a b i)[r]! := ⟨_, rfl⟩
      have hlp : cp.length = k := by rw [hcp]; exact HB.out.hk _
      have hlr : cr.length = k := by rw [hcr]; exact HB.out.hk _
      rw [← hcr] at x1 x3 x4
      rw [← hcp] at x2 x4
      obtain ⟨wz, hwz⟩ : ∃ wz, wz = sortWorldK enc k w blk off (m + 1) (swp (swapR d a b i) p r) os := ⟨_, rfl⟩
      rw [← hwz] at x4
      have HZ := Lib.hid hwz
      clear hcp hcr hwq hp hr hwz
      go_upto_region 3 with (fail)
      go_big_region_o
      all_goals go_wp2
      go_roundg (n - (i + 1))
      case measure => omega
      case rel => exact ⟨i + 1, m + 1, by omega, by go_num, by rw [HZ.out, HW.out.2.1, HW.out.2.2]; rfl⟩
    · have hii : ¬ (i : Int) < (n : Int) := by omega
      have : i = n := by omega
      subst this
      go_wp2
      go_end0
      exact ⟨rfl, m, rfl⟩
end
end Go.Proofs.YtapjbdigpleekaaGreat.St

/- The walk of slices.rotateCmpFunc over fields (any program that bears the same bodies); the conditions are on places and on what lies in memory. -/
set_option linter.unusedVariables false
set_option linter.unusedSimpArgs false
namespace Go.Proofs.YtapjbdigpleekaaGreat.St
open Go.RowKit Go.Proofs.YtapjbdigpleekaaGreat.K Go.Sort Go.Lib
variable {α : Type} [Inhabited α] {P : Program} {k : Nat}
section
variable {enc : α → List Value} {w : World} {blk off N : Nat}
def RotPost (enc : α → List Value) (k : Nat) (w : World) (blk off : Nat) (d : Array α) (os : Array Obj) (a m b : Nat) (e : Ending) (w' : World) : Prop := e = .returned (.tuple #[]) ∧ ∃ q d', w' = sortWorldK enc k w blk off q d' os ∧ Rot d d' a m b ∧ PermIn a b d d'
set_option maxHeartbeats 4000000 in
set_option maxRecDepth 1000000 in
theorem rotate_calls (L : Lays P k) (B : Base enc k w blk off N) (cap : Nat) (fv : Value) (a m b m0 : Nat) (d : Array α) (os : Array Obj) (hd : d.size = N) (h1 : a < m) (h2 : m < b) (h3 : b ≤ N) :
    Calls P 126 #[.slice (some ⟨blk, off, none⟩) N cap, .int .i64 (a : Nat), .int .i64 (m : Nat), .int .i64 (b : Nat), fv] (sortWorldK enc k w blk off m0 d os) (RotPost enc k w blk off d os a m b) := by
  have HSW := Lib.hid (fun a b n m0 (d : Array α) os => swapRange_calls (enc := enc) (w := w) (blk := blk) (off := off) L B cap fv a b n m0 d os)
  have mixed := L.mixed; have t0 := L.t_int; have a0 := L.a_int; have z0 := L.z_int; have v0 := L.v_int; have t1 := L.t_bool; have a1 := L.a_bool; have z1 := L.z_bool; have v1 := L.v_bool; have t2 := L.t_sl; have a2 := L.a_sl; have z2 := L.z_sl; have v2 := L.v_sl; have t3 := L.t_fn; have a3 := L.a_fn; have z3 := L.z_fn; have v3 := L.v_fn; have t4 := L.t_u; have a4 := L.a_u; have z4 := L.z_u; have v4 := L.v_u; have aE := L.aE; have zE := L.zE; have c0' := L.cSwap; have c1' := L.cRot; have c2' := L.cMrg
  have u2 := run_underlying L.t_sl
  have F0 := L.fRot
  have HB := Lib.hid B
  have hN := B.hN
  have HD := Lib.hid hd
  clear B hd L
  obtain ⟨i0, hi0⟩ : ∃ i, i = m - a := ⟨_, rfl⟩
  obtain ⟨j0, hj0⟩ : ∃ j, j = b - m := ⟨_, rfl⟩
  have ei0 : (m : Int) - (a : Int) = (i0 : Nat) := by omega
  have ej0 : (b : Int) - (m : Int) = (j0 : Nat) := by omega
  have HI0 := Lib.hid (And.intro hi0 hj0)
  have HR0 : Hid (∃ dk : Array α, dk = d ∧ dk.size = N ∧ (∀ d', Rot dk d' (m - i0) m (m + j0) → Rot d d' a m b) ∧ PermIn a b d dk) := Lib.hid ⟨d, rfl, HD.out, fun d' h => by rw [show m - i0 = a by omega, show m + j0 = b by omega] at h; exact h, permIn_refl d a b⟩
  clear hi0 hj0
  go_enter F0, Tryz.ntmps126
  go_wp2
  go_loopg [10, 11] (i0 + j0) (fun q u v wr => ∃ (i j n : Nat) (dk : Array α), q = i + j ∧ u = .int .i64 (i : Nat) ∧ v = .int .i64 (j : Nat) ∧ wr = sortWorldK enc k w blk off n dk os ∧ Hid (0 < i ∧ 0 < j ∧ i ≤ m - a ∧ j ≤ b - m) ∧ Hid (dk.size = N ∧ (∀ d', Rot dk d' (m - i) m (m + j) → Rot d d' a m b) ∧ PermIn a b d dk))
  case atStart => exact ⟨i0, j0, m0, d, rfl, rfl, rfl, rfl, Lib.hid (by have := HI0.out; omega), Lib.hid (by obtain ⟨dk, rfl, h⟩ := HR0.out; exact h)⟩
  case round =>
    clear HR0 HI0 ei0 ej0
    obtain ⟨i, j, n, dk, hq, rfl, rfl, rfl, HIJ, HRD⟩ := hrel
    obtain ⟨b1, b2, b3, b4⟩ := HIJ.out
    have HQ := Lib.hid hq
    clear hq
    obtain ⟨p, hp⟩ : ∃ p, p = m - i := ⟨_, rfl⟩
    have ep : (m : Int) - (i : Int) = (p : Nat) := by omega
    by_cases hij : i = j
    · subst hij
      have hne : ((i : Int) != (i : Int)) = false := by simp
      have HC := Lib.hid (HSW.out p m i n dk os HRD.out.1 (by omega) (by omega))
      have HP := Lib.hid hp
      clear hp
      go_wp2_with (go_at_call 127; go_loud ((with_reducible refine Calls.mono HC.out ?_); rintro e w1 ⟨rfl, q1, hw1⟩; have HW1 := Lib.hid hw1; clear hw1))
      go_end0
      refine ⟨rfl, q1, _, HW1.out, ?_, ?_⟩
      · refine HRD.out.2.1 _ ?_
        rw [HP.out]
        exact rot_eq dk m i (by omega) (by rw [HRD.out.1]; omega)
      · exact permIn_trans _ _ _ a b HRD.out.2.2 (swapR_perm dk p m a b (by have := HP.out; omega) (by rw [HRD.out.1]; exact h3) i (by have := HP.out; omega) (by omega))
    · have hne : ((i : Int) != (j : Int)) = true := by simp; omega
      by_cases hgt : j < i
      · have hg : (j : Int) < (i : Int) := by omega
        obtain ⟨i', hi'⟩ : ∃ x, x = i - j := ⟨_, rfl⟩
        have ei : (i : Int) - (j : Int) = (i' : Nat) := by omega
        have HC := Lib.hid (HSW.out p m j n dk os HRD.out.1 (by omega) (by omega))
        have HP := Lib.hid (And.intro hp hi')
        clear hp hi'
        go_wp2_with (go_at_call 127; go_loud ((with_reducible refine Calls.mono HC.out ?_); rintro e w1 ⟨rfl, q1, hw1⟩; subst hw1))
        obtain ⟨hp, hi'⟩ := HP.out
        go_roundg (i' + j)
        case measure => have := HQ.out; omega
        case rel =>
          refine ⟨i', j, q1, swapR dk p m j, rfl, by go_num, rfl, rfl, Lib.hid (by omega), Lib.hid ⟨by rw [swapR_size]; exact HRD.out.1, fun d' h => HRD.out.2.1 d' ?_, ?_⟩⟩
          · rw [hp, hi'] at h
            exact rot_gt hgt (by omega) (by rw [HRD.out.1]; omega) h
          · exact permIn_trans _ _ _ a b HRD.out.2.2 (swapR_perm dk p m a b (by omega) (by rw [HRD.out.1]; exact h3) j (by omega) (by omega))
      · have hg : ¬ (j : Int) < (i : Int) := by omega
        obtain ⟨j', hj'⟩ : ∃ x, x = j - i := ⟨_, rfl⟩
        have ei : (j : Int) - (i : Int) = (j' : Nat) := by omega
        obtain ⟨r, hr⟩ : ∃ x, x = m + j - i := ⟨_, rfl⟩
        have er : (m : Int) + (j : Int) - (i : Int) = (r : Nat) := by omega
        have HC := Lib.hid (HSW.out p r i n dk os HRD.out.1 (by omega) (by omega))
        have HP := Lib.hid (And.intro hp (And.intro hj' hr))
        clear hp hj' hr
        go_wp2_with (go_at_call 127; go_loud ((with_reducible refine Calls.mono HC.out ?_); rintro e w1 ⟨rfl, q1, hw1⟩; subst hw1))
        obtain ⟨hp, hj', hr⟩ := HP.out
        go_roundg (i + j')
        case measure => have := HQ.out; omega
        case rel =>
          refine ⟨i, j', q1, swapR dk p r i, rfl, rfl, by go_num, rfl, Lib.hid (by omega), Lib.hid ⟨by rw [swapR_size]; exact HRD.out.1, fun d' h => HRD.out.2.1 d' ?_, ?_⟩⟩
          · rw [hp, hr, hj'] at h
            exact rot_lt (by omega) (by omega) (by rw [HRD.out.1]; omega) h
          · exact permIn_trans _ _ _ a b HRD.out.2.2 (swapR_perm dk p r a b (by omega) (by rw [HRD.out.1]; exact h3) i (by omega) (by omega))
end
end Go.Proofs.YtapjbdigpleekaaGreat.St

/- The walk of slices.symMergeCmpFunc over fields, a left half of one element (any program that bears the same bodies); printed by gen_stmrg.py; the conditions are on places and on what lies in memory. -/
set_option linter.unusedVariables false
set_option linter.unusedSimpArgs false
namespace Go.Proofs.YtapjbdigpleekaaGreat.St
open Go.RowKit Go.Proofs.YtapjbdigpleekaaGreat.K Go.Sort Go.Lib Go.Proofs
variable {α : Type} [Inhabited α] {P : Program} {k : Nat}
section
variable {enc : α → List Value} {w : World} {blk off N : Nat} {cf : α → α → Int} {g : Nat} {cb : Array Value}
def MrgPost (cf : α → α → Int) (enc : α → List Value) (k : Nat) (w : World) (blk off : Nat) (d : Array α) (a b : Nat) (e : Ending) (w' : World) : Prop := e = .returned (.tuple #[]) ∧ ∃ q d' os', w' = sortWorldK enc k w blk off q d' os' ∧ PermIn a b d d' ∧ SortedIn (ltOf cf) a b d'
/-- The facts of one comparison, for every world of the class. -/
theorem Base.cmp_ (B : Base enc k w blk off N) (hcmp : CmpLays P g cb enc k cf blk off N w) (m : Nat) (d : Array α) (os : Array Obj) (hd : d.size = N) (i j : Nat) (hi : i < N) (hj : j < N) {wq : World} (hwq : wq = sortWorldK enc k w blk off m d os) :
    (∀ n' os', grow (wq.drewN n') os' = sortWorldK enc k w blk off (m + n') d (os ++ os')) ∧
    (∀ n' os', Sem.run P (loadCellsFrom ⟨blk, off + i * k, none⟩ 0 k #[]) (grow (wq.drewN n') os') = .ok (enc d[i]!).toArray (grow (wq.drewN n') os')) ∧
    (∀ n' os', Sem.run P (loadCellsFrom ⟨blk, off + j * k, none⟩ 0 k #[]) (grow (wq.drewN n') os') = .ok (enc d[j]!).toArray (grow (wq.drewN n') os')) ∧
    (∀ n' os', Calls P g (#[.agg (enc d[i]!).toArray, .agg (enc d[j]!).toArray] ++ cb) (grow (wq.drewN n') os') fun e w' => e = .returned (.int .i64 (cf d[i]! d[j]!)) ∧ ∃ q os'', w' = grow ((grow (wq.drewN n') os').drewN q) os'') := by
  subst hwq
  have hcls : ∀ n' os', grow ((sortWorldK enc k w blk off m d os).drewN n') os' = sortWorldK enc k w blk off (m + n') d (os ++ os') := fun n' os' => sortWorldK_grown_c enc k w blk off m n' d os os'
  have hH : ∀ n' os', HoldsK enc k (grow ((sortWorldK enc k w blk off m d os).drewN n') os') blk off d := fun n' os' => by rw [hcls]; exact B.holds _ d _ hd
  refine ⟨hcls, fun n' os' => run_loadCellsFrom_list P _ _ _ k (B.hk _) (HoldsK.cells (hH n' os') B.hk (by omega)), fun n' os' => run_loadCellsFrom_list P _ _ _ k (B.hk _) (HoldsK.cells (hH n' os') B.hk (by omega)), fun n' os' => ?_⟩
  rw [hcls]
  exact hcmp _ _ d hd _ _
set_option maxHeartbeats 8000000 in
set_option maxRecDepth 1000000 in
theorem symMerge_A (L : Lays P k) (B : Base enc k w blk off N) (hS : SWO (ltOf cf)) (eg : ∀ args w, (callFunc g args).run P w = .ok (.enter g args) w) (hcmp : CmpLays P g cb enc k cf blk off N w) (cap : Nat) (m0 : Nat) (d : Array α) (os : Array Obj) (hd : d.size = N) (a b : Nat) (h2 : a + 1 < b) (h3 : b ≤ N) (s2 : SortedIn (ltOf cf) (a + 1) b d) (m : Nat) (hm : m = a + 1) :
    Calls P 125 #[.slice (some ⟨blk, off, none⟩) N cap, .int .i64 (a : Nat), .int .i64 (m : Nat), .int .i64 (b : Nat), .func (.func g) #[] cb] (sortWorldK enc k w blk off m0 d os) (MrgPost cf enc k w blk off d a b) := by
  have mixed := L.mixed; have t0 := L.t_int; have a0 := L.a_int; have z0 := L.z_int; have v0 := L.v_int; have t1 := L.t_bool; have a1 := L.a_bool; have z1 := L.z_bool; have v1 := L.v_bool; have t2 := L.t_sl; have a2 := L.a_sl; have z2 := L.z_sl; have v2 := L.v_sl; have t3 := L.t_fn; have a3 := L.a_fn; have z3 := L.z_fn; have v3 := L.v_fn; have t4 := L.t_u; have a4 := L.a_u; have z4 := L.z_u; have v4 := L.v_u; have aE := L.aE; have zE := L.zE; have c0' := L.cSwap; have c1' := L.cRot; have c2' := L.cMrg
  have u2 := run_underlying L.t_sl
  have F0 := L.fMrg
  have HB := Lib.hid B
  have HS := Lib.hid (And.intro hS (And.intro s2 hcmp))
  have hN := B.hN
  have HD := Lib.hid hd
  have HM := Lib.hid hm
  have em : (m : Int) - (a : Int) = 1 := by omega
  have h2m : m < b := by omega
  have ham : a < m := by omega
  clear B hd L hS s2 hcmp hm h2
  go_enter F0, Tryz.ntmps125
  go_wp2
  go_loopg [10, 11] (b - m) (fun q u v wr => ∃ (i j n : Nat) (os' : Array Obj), j = i + q ∧ u = .int .i64 (i : Nat) ∧ v = .int .i64 (j : Nat) ∧ wr = sortWorldK enc k w blk off n d os' ∧ Hid (SrchA (ltOf cf) d d[a]! m b i j))
  case atStart => exact ⟨m, b, m0, os, by omega, rfl, rfl, rfl, Lib.hid ⟨Nat.le_refl _, by omega, Nat.le_refl _, fun h x y => absurd y (by omega), fun h x y => absurd y (by omega)⟩⟩
  case round =>
    obtain ⟨i, j, n, os', hq, rfl, rfl, rfl, HSR⟩ := hrel
    obtain ⟨b1, b2, b3, _, _⟩ := HSR.out
    have HQ := Lib.hid hq
    clear hq
    by_cases hij : i < j
    · have hlt : (i : Int) < (j : Int) := by omega
      obtain ⟨h, hh⟩ : ∃ h, h = (i + j) / 2 := ⟨_, rfl⟩
      have hhi : i ≤ h := by omega
      have hhj : h < j := by omega
      have HH := Lib.hid hh
      have hhN : (h : Int) < (N : Int) := by omega
      have haN : (a : Int) < (N : Int) := by omega
      have eh : ((i : Int) + (j : Int)) / 2 = (h : Nat) := by omega
      obtain ⟨wq, hwq⟩ : ∃ wq, wq = sortWorldK enc k w blk off n d os' := ⟨_, rfl⟩
      obtain ⟨CLS0, lj, lp, hcg⟩ := HB.out.cmp_ (P := P) HS.out.2.2 n d os' HD.out h a (by omega) (by omega) hwq
      have CLS := Lib.hid CLS0
      rw [← hwq]
      obtain ⟨x1, hx1⟩ : ∃ x, x = d[h]! := ⟨_, rfl⟩
      obtain ⟨x2, hx2⟩ : ∃ x, x = d[a]! := ⟨_, rfl⟩
      rw [← hx1] at lj hcg
      rw [← hx2] at lp hcg
      have HX := Lib.hid (And.intro hx1 hx2)
      clear CLS0 hx1 hx2 hh hwq
      by_cases hlv : cf x1 x2 < 0
      · go_wp2_with fail
        go_quiet_grown (first | (go_at_fn g; refine Calls.grown_of (hcg _ _)))
        go_wp2_with fail
        go_roundg (j - (h + 1))
        case measure => have := HQ.out; omega
        case rel => exact ⟨h + 1, j, n + nq, os' ++ osq, by omega, by go_num, rfl, CLS.out nq osq, Lib.hid (HSR.out.up HS.out.1 (by rw [HM.out]; exact HS.out.2.1) hhi hhj (by rw [← HX.out.1, ← HX.out.2]; exact decide_eq_true hlv))⟩
      · go_wp2_with fail
        go_quiet_grown (first | (go_at_fn g; refine Calls.grown_of (hcg _ _)))
        go_wp2_with fail
        go_roundg (h - i)
        case measure => have := HQ.out; omega
        case rel => exact ⟨i, h, n + nq, os' ++ osq, by omega, rfl, by go_num, CLS.out nq osq, Lib.hid (HSR.out.down HS.out.1 (by rw [HM.out]; exact HS.out.2.1) hhi hhj (by rw [← HX.out.1, ← HX.out.2]; exact decide_eq_false (by omega)))⟩
    · have hlt : ¬ (i : Int) < (j : Int) := by omega
      obtain rfl : i = j := by omega
      obtain ⟨i1, hi1⟩ : ∃ x, x = i - 1 := ⟨_, rfl⟩
      have ei1 : (i : Int) - 1 = (i1 : Nat) := by omega
      have HI1 := Lib.hid hi1
      have hai1 : a ≤ i1 := by omega
      have hiN : i1 < N := by omega
      have HK0 : Hid (Rot d d a (a + 1) (a + 1) ∧ PermIn a b d d ∧ d.size = N) := Lib.hid ⟨rot_right d a (a + 1) (by omega), permIn_refl d a b, HD.out⟩
      clear hi1
      go_wp2_with fail
      go_loopg [13] (i1 - a) (fun q u wr => ∃ (kk n : Nat) (dk : Array α), kk + q = i1 ∧ u = .int .i64 (kk : Nat) ∧ wr = sortWorldK enc k w blk off n dk os' ∧ Hid (a ≤ kk) ∧ Hid (Rot d dk a (a + 1) (kk + 1) ∧ PermIn a b d dk ∧ dk.size = N))
      case atStart => exact ⟨a, n, d, by omega, rfl, rfl, Lib.hid (Nat.le_refl _), HK0⟩
      case round =>
        clear HK0
        obtain ⟨kk, n2, dk, hkq, rfl, rfl, HAK, HRK⟩ := hrel
        have hak := HAK.out
        by_cases hk : kk < i1
        · have hki : (kk : Int) < (i1 : Int) := by omega
          obtain ⟨r, hr⟩ : ∃ r, r = kk + 1 := ⟨_, rfl⟩
          have er : (kk : Int) + 1 = (r : Nat) := by omega
          have hpN : (kk : Int) < (N : Int) := by omega
          have hrN : (r : Int) < (N : Int) := by omega
          obtain ⟨wq, hwq⟩ : ∃ wq, wq = (sortWorldK enc k w blk off n2 dk os') := ⟨_, rfl⟩
          obtain ⟨x1, x2, x3, x4⟩ := HB.out.exch P n2 dk os' HRK.out.2.2 kk r (by omega) (by omega) (wq := wq.drew) (by rw [hwq])
          rw [← hwq]
          obtain ⟨cp, hcp⟩ : ∃ c, c = enc dk[kk]! := ⟨_, rfl⟩
          obtain ⟨cr, hcr⟩ : ∃ c, c = enc dk[r]! := ⟨_, rfl⟩
          have hlp : cp.length = k := by rw [hcp]; exact HB.out.hk _
          have hlr : cr.length = k := by rw [hcr]; exact HB.out.hk _
          rw [← hcr] at x1 x3 x4
          rw [← hcp] at x2 x4
          obtain ⟨wz, hwz⟩ : ∃ wz, wz = sortWorldK enc k w blk off (n2 + 1) (swp dk kk r) os' := ⟨_, rfl⟩
          rw [← hwz] at x4
          have HZ := Lib.hid (And.intro hwz hr)
          clear hcp hcr hwq hwz hr
          go_upto_region 11 with (fail)
          go_big_region_o
          all_goals go_wp2
          go_roundg (i1 - r)
          case measure => have := HZ.out.2; omega
          case rel =>
            obtain ⟨z1, z2⟩ := HZ.out
            obtain ⟨r1, r2, r3⟩ := HRK.out
            refine ⟨r, n2 + 1, swp dk kk r, by omega, by go_num, z1, Lib.hid (by omega), Lib.hid ⟨?_, ?_, ?_⟩⟩
            · rw [z2]; exact rot_up r1 hak (by rw [HD.out]; omega)
            · exact permIn_trans _ _ _ a b r2 (swp_permIn dk a b kk r hak (by omega) (by omega) (by omega) (by rw [r3]; exact h3))
            · rw [swp_size]; exact r3
        · have hki : ¬ (kk : Int) < (i1 : Int) := by omega
          obtain ⟨r1, r2, r3⟩ := HRK.out
          have hkk : kk + 1 = i := by have := HI1.out; omega
          go_wp2
          go_end0
          exact ⟨rfl, n2, dk, os', rfl, r2, insA HS.out.1 HS.out.2.1 (by have := HSR.out; rw [HM.out] at this; exact this) (by rw [← hkk]; exact r1)⟩
end
end Go.Proofs.YtapjbdigpleekaaGreat.St

/- The walk of slices.symMergeCmpFunc over fields, a right half of one element (any program that bears the same bodies); printed by gen_stmrg.py; the conditions are on places and on what lies in memory. -/
set_option linter.unusedVariables false
set_option linter.unusedSimpArgs false
namespace Go.Proofs.YtapjbdigpleekaaGreat.St
open Go.RowKit Go.Proofs.YtapjbdigpleekaaGreat.K Go.Sort Go.Lib Go.Proofs
variable {α : Type} [Inhabited α] {P : Program} {k : Nat}
section
variable {enc : α → List Value} {w : World} {blk off N : Nat} {cf : α → α → Int} {g : Nat} {cb : Array Value}
set_option maxHeartbeats 8000000 in
set_option maxRecDepth 1000000 in
theorem symMerge_B (L : Lays P k) (B : Base enc k w blk off N) (hS : SWO (ltOf cf)) (eg : ∀ args w, (callFunc g args).run P w = .ok (.enter g args) w) (hcmp : CmpLays P g cb enc k cf blk off N w) (cap : Nat) (m0 : Nat) (d : Array α) (os : Array Obj) (hd : d.size = N) (a m : Nat) (h1 : a + 1 < m) (h3 : m < N) (s1 : SortedIn (ltOf cf) a m d) (b : Nat) (hb : b = m + 1) :
    Calls P 125 #[.slice (some ⟨blk, off, none⟩) N cap, .int .i64 (a : Nat), .int .i64 (m : Nat), .int .i64 (b : Nat), .func (.func g) #[] cb] (sortWorldK enc k w blk off m0 d os) (MrgPost cf enc k w blk off d a b) := by
  have mixed := L.mixed; have t0 := L.t_int; have a0 := L.a_int; have z0 := L.z_int; have v0 := L.v_int; have t1 := L.t_bool; have a1 := L.a_bool; have z1 := L.z_bool; have v1 := L.v_bool; have t2 := L.t_sl; have a2 := L.a_sl; have z2 := L.z_sl; have v2 := L.v_sl; have t3 := L.t_fn; have a3 := L.a_fn; have z3 := L.z_fn; have v3 := L.v_fn; have t4 := L.t_u; have a4 := L.a_u; have z4 := L.z_u; have v4 := L.v_u; have aE := L.aE; have zE := L.zE; have c0' := L.cSwap; have c1' := L.cRot; have c2' := L.cMrg
  have u2 := run_underlying L.t_sl
  have F0 := L.fMrg
  have HB := Lib.hid B
  have HS := Lib.hid (And.intro hS (And.intro s1 hcmp))
  have hN := B.hN
  have HD := Lib.hid hd
  have HM := Lib.hid hb
  obtain ⟨ma, hma⟩ : ∃ x, x = m - a := ⟨_, rfl⟩
  have ema : (m : Int) - (a : Int) = (ma : Nat) := by omega
  have hm1 : ((ma : Int) == 1) = false := by rw [beq_eq_false_iff_ne]; omega
  have em : (b : Int) - (m : Int) = 1 := by omega
  have ham : a < m := by omega
  clear B hd L hS s1 hcmp hb hma h1
  go_enter F0, Tryz.ntmps125
  go_wp2
  go_loopg [14, 15] (m - a) (fun q u v wr => ∃ (i j n : Nat) (os' : Array Obj), j = i + q ∧ u = .int .i64 (i : Nat) ∧ v = .int .i64 (j : Nat) ∧ wr = sortWorldK enc k w blk off n d os' ∧ Hid (SrchB (ltOf cf) d d[m]! a m i j))
  case atStart => exact ⟨a, m, m0, os, by omega, rfl, rfl, rfl, Lib.hid ⟨Nat.le_refl _, by omega, Nat.le_refl _, fun h x y => absurd y (by omega), fun h x y => absurd y (by omega)⟩⟩
  case round =>
    obtain ⟨i, j, n, os', hq, rfl, rfl, rfl, HSR⟩ := hrel
    obtain ⟨b1, b2, b3, _, _⟩ := HSR.out
    have HQ := Lib.hid hq
    clear hq
    by_cases hij : i < j
    · have hlt : (i : Int) < (j : Int) := by omega
      obtain ⟨h, hh⟩ : ∃ h, h = (i + j) / 2 := ⟨_, rfl⟩
      have hhi : i ≤ h := by omega
      have hhj : h < j := by omega
      have hhN : (h : Int) < (N : Int) := by omega
      have hmN : (m : Int) < (N : Int) := by omega
      have eh : ((i : Int) + (j : Int)) / 2 = (h : Nat) := by omega
      obtain ⟨wq, hwq⟩ : ∃ wq, wq = sortWorldK enc k w blk off n d os' := ⟨_, rfl⟩
      obtain ⟨CLS0, lj, lp, hcg⟩ := HB.out.cmp_ (P := P) HS.out.2.2 n d os' HD.out m h (by omega) (by omega) hwq
      have CLS := Lib.hid CLS0
      rw [← hwq]
      obtain ⟨x1, hx1⟩ : ∃ x, x = d[m]! := ⟨_, rfl⟩
      obtain ⟨x2, hx2⟩ : ∃ x, x = d[h]! := ⟨_, rfl⟩
      rw [← hx1] at lj hcg
      rw [← hx2] at lp hcg
      have HX := Lib.hid (And.intro hx1 hx2)
      clear CLS0 hx1 hx2 hh hwq
      by_cases hlv : cf x1 x2 < 0
      · have hl1 : decide (cf x1 x2 < 0) = true := decide_eq_true hlv
        have hl2 : decide (0 ≤ cf x1 x2) = false := decide_eq_false (by omega)
        go_wp2_with fail
        go_quiet_grown (first | (go_at_fn g; refine Calls.grown_of (hcg _ _)))
        go_wp2_with fail
        go_roundg (h - i)
        case measure => have := HQ.out; omega
        case rel => exact ⟨i, h, n + nq, os' ++ osq, by omega, rfl, by go_num, CLS.out nq osq, Lib.hid (HSR.out.down HS.out.1 HS.out.2.1 hhi hhj (by rw [← HX.out.1, ← HX.out.2]; exact decide_eq_true hlv))⟩
      · have hl0 : 0 ≤ cf x1 x2 := by omega
        have hl1 : decide (cf x1 x2 < 0) = false := decide_eq_false (by omega)
        have hl2 : decide (0 ≤ cf x1 x2) = true := decide_eq_true hl0
        go_wp2_with fail
        go_quiet_grown (first | (go_at_fn g; refine Calls.grown_of (hcg _ _)))
        go_wp2_with fail
        go_roundg (j - (h + 1))
        case measure => have := HQ.out; omega
        case rel => exact ⟨h + 1, j, n + nq, os' ++ osq, by omega, by go_num, rfl, CLS.out nq osq, Lib.hid (HSR.out.up HS.out.1 HS.out.2.1 hhi hhj (by rw [← HX.out.1, ← HX.out.2]; exact decide_eq_false (by omega)))⟩
    · have hlt : ¬ (i : Int) < (j : Int) := by omega
      obtain rfl : i = j := by omega
      have HK0 : Hid (Rot d d m m (m + 1) ∧ PermIn a b d d ∧ d.size = N) := Lib.hid ⟨rot_left d m (m + 1) (by omega), permIn_refl d a b, HD.out⟩
      go_wp2_with fail
      go_loopg [17] (m - i) (fun q u wr => ∃ (kk n : Nat) (dk : Array α), kk = i + q ∧ u = .int .i64 (kk : Nat) ∧ wr = sortWorldK enc k w blk off n dk os' ∧ Hid (kk ≤ m) ∧ Hid (Rot d dk kk m (m + 1) ∧ PermIn a b d dk ∧ dk.size = N))
      case atStart => exact ⟨m, n, d, by omega, rfl, rfl, Lib.hid (Nat.le_refl _), HK0⟩
      case round =>
        clear HK0
        obtain ⟨kk, n2, dk, hkq, rfl, rfl, HAK, HRK⟩ := hrel
        have hak := HAK.out
        have HKQ := Lib.hid hkq
        by_cases hk : i < kk
        · have hki : (i : Int) < (kk : Int) := by omega
          obtain ⟨r, hr⟩ : ∃ r, r = kk - 1 := ⟨_, rfl⟩
          have er : (kk : Int) - 1 = (r : Nat) := by omega
          have hpN : (kk : Int) < (N : Int) := by omega
          have hrN : (r : Int) < (N : Int) := by omega
          obtain ⟨wq, hwq⟩ : ∃ wq, wq = (sortWorldK enc k w blk off n2 dk os') := ⟨_, rfl⟩
          obtain ⟨x1, x2, x3, x4⟩ := HB.out.exch P n2 dk os' HRK.out.2.2 kk r (by omega) (by omega) (wq := wq.drew) (by rw [hwq])
          rw [← hwq]
          obtain ⟨cp, hcp⟩ : ∃ c, c = enc dk[kk]! := ⟨_, rfl⟩
          obtain ⟨cr, hcr⟩ : ∃ c, c = enc dk[r]! := ⟨_, rfl⟩
          have hlp : cp.length = k := by rw [hcp]; exact HB.out.hk _
          have hlr : cr.length = k := by rw [hcr]; exact HB.out.hk _
          rw [← hcr] at x1 x3 x4
          rw [← hcp] at x2 x4
          obtain ⟨wz, hwz⟩ : ∃ wz, wz = sortWorldK enc k w blk off (n2 + 1) (swp dk kk r) os' := ⟨_, rfl⟩
          rw [← hwz] at x4
          have HZ := Lib.hid (And.intro hwz hr)
          clear hcp hcr hwq hwz hr hkq
          go_upto_region 23 with (fail)
          go_big_region_o
          all_goals go_wp2
          go_roundg (r - i)
          case measure => have := HZ.out.2; have := HKQ.out; omega
          case rel =>
            obtain ⟨z1, z2⟩ := HZ.out
            obtain ⟨r1, r2, r3⟩ := HRK.out
            refine ⟨r, n2 + 1, swp dk kk r, by omega, by go_num, z1, Lib.hid (by omega), Lib.hid ⟨?_, ?_, ?_⟩⟩
            · have e : kk = r + 1 := by omega
              rw [e] at r1 ⊢
              exact rot_down r1 (by omega) (by rw [HD.out]; omega)
            · exact permIn_trans _ _ _ a b r2 (swp_permIn dk a b kk r (by omega) (by have := HM.out; omega) (by omega) (by have := HM.out; omega) (by rw [r3]; have := HM.out; omega))
            · rw [swp_size]; exact r3
        · have hki : ¬ (i : Int) < (kk : Int) := by omega
          obtain ⟨r1, r2, r3⟩ := HRK.out
          have hkk : kk = i := by omega
          clear hkq
          go_wp2
          go_end0
          exact ⟨rfl, n2, dk, os', rfl, r2, by rw [HM.out]; exact insB HS.out.1 HS.out.2.1 HSR.out (by rw [← hkk]; exact r1)⟩
end
end Go.Proofs.YtapjbdigpleekaaGreat.St
