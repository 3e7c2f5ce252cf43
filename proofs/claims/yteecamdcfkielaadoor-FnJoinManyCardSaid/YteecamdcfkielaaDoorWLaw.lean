/- The key wrap and its way back, in plain lists: one undoes the other; no condition. -/
import Derived.Test.YteecamdcfkielaaDoorUnwrap
set_option linter.unusedVariables false
set_option linter.unusedSimpArgs false
namespace Go.Proofs.YteecamdcfkielaaDoor.Wr
open Go.RowKit Go.Proofs.YteecamdcfkielaaDoor.K Go.Proofs.YteecamdcfkielaaDoor.Own
theorem num8_lt (l : List UInt8) (h : l.length = 8) : num l < 18446744073709551616 := by
  have := num_lt l
  rw [h] at this
  exact this
theorem b8_split (a b : Nat) : (b8 a ++ b8 b).take 8 = b8 a ∧ (b8 a ++ b8 b).drop 8 = b8 b := by
  constructor
  · rw [List.take_append_of_le_length (by simp [b8_length])]
    exact List.take_of_length_le (by simp [b8_length])
  · rw [List.drop_append, List.drop_eq_nil_of_le (by simp [b8_length])]
    simp [b8_length]
theorem dec_encB (s : Nat) (x : List UInt8) (h : x.length = 16) : decB s (encB s x) = x := by
  have hl : (x.take 8).length = 8 := by rw [List.length_take, h]; rfl
  have hr : (x.drop 8).length = 8 := by rw [List.length_drop, h]
  have hlt := enc_lt s (num (x.take 8), num (x.drop 8)) (num8_lt _ hl) (num8_lt _ hr)
  unfold decB encB
  rw [(b8_split _ _).1, (b8_split _ _).2, num_b8 _ hlt.1, num_b8 _ hlt.2, show ((enc s (num (x.take 8), num (x.drop 8))).1, (enc s (num (x.take 8), num (x.drop 8))).2) = enc s (num (x.take 8), num (x.drop 8)) from rfl, dec_enc]
  simp only [b8_num _ hl, b8_num _ hr, List.take_append_drop]
theorem enc_decB (s : Nat) (x : List UInt8) (h : x.length = 16) : encB s (decB s x) = x := by
  have hl : (x.take 8).length = 8 := by rw [List.length_take, h]; rfl
  have hr : (x.drop 8).length = 8 := by rw [List.length_drop, h]
  have hlt := dec_lt s (num (x.take 8), num (x.drop 8)) (num8_lt _ hl) (num8_lt _ hr)
  unfold decB encB
  rw [(b8_split _ _).1, (b8_split _ _).2, num_b8 _ hlt.1, num_b8 _ hlt.2, show ((dec s (num (x.take 8), num (x.drop 8))).1, (dec s (num (x.take 8), num (x.drop 8))).2) = dec s (num (x.take 8), num (x.drop 8)) from rfl, enc_dec]
  simp only [b8_num _ hl, b8_num _ hr, List.take_append_drop]
/-- Mixing twice gives back. -/
theorem mixed_twice (a b : List UInt8) : mixed (mixed a b 8) b 8 = a := by
  refine List.ext_getElem (by simp [mixed]) (fun i h1 h2 => ?_)
  have hm := mixed_at a b 8 i h2
  rw [← bt_get _ _ h1, mixed_at _ _ _ _ (by rw [mixed_len]; exact h2), hm, ← bt_get a i h2]
  by_cases h8 : i < 8
  · simp only [h8, if_true]
    rw [UInt8.xor_assoc, UInt8.xor_self, UInt8.xor_zero]
  · simp only [h8, if_false]
/-- Words of eight bytes. -/
def Good (n : Nat) (p : List UInt8 × (Nat → List UInt8)) : Prop := p.1.length = 8 ∧ ∀ j, j < n → (p.2 j).length = 8
def Alike (n : Nat) (p q : List UInt8 × (Nat → List UInt8)) : Prop := p.1 = q.1 ∧ ∀ j, j < n → p.2 j = q.2 j
theorem Alike.refl (n : Nat) (p : List UInt8 × (Nat → List UInt8)) : Alike n p p := ⟨rfl, fun _ _ => rfl⟩
theorem Alike.trans {n : Nat} {p q r : List UInt8 × (Nat → List UInt8)} (h : Alike n p q) (k : Alike n q r) : Alike n p r := ⟨h.1.trans k.1, fun j hj => (h.2 j hj).trans (k.2 j hj)⟩
theorem good_step (s n t : Nat) (h1 : 1 ≤ n) (p : List UInt8 × (Nat → List UInt8)) (h : Good n p) : Good n (encStep (encB s) n t p) := by
  refine ⟨?_, fun j hj => ?_⟩
  · simp [encStep, mixed_len, encB_len]
  · simp only [encStep, upd]
    split
    · simp [encB_len]
    · exact h.2 j hj
theorem good_run (s n : Nat) (h1 : 1 ≤ n) (p : List UInt8 × (Nat → List UInt8)) (h : Good n p) : ∀ t, Good n (encRun (encB s) n t p)
  | 0 => h
  | t + 1 => good_step s n t h1 _ (good_run s n h1 p h t)
theorem undo_step (s n t : Nat) (h1 : 1 ≤ n) (p : List UInt8 × (Nat → List UInt8)) (h : Good n p) : decStep (decB s) n t (encStep (encB s) n t p) = p := by
  have hi : t % n < n := Nat.mod_lt _ h1
  have hB : (encB s (p.1 ++ p.2 (t % n))).length = 16 := encB_len _ _
  have hx : (p.1 ++ p.2 (t % n)).length = 16 := by rw [List.length_append, h.1, h.2 _ hi]
  have e1 : decStep (decB s) n t (encStep (encB s) n t p) = ((decB s (encB s (p.1 ++ p.2 (t % n)))).take 8, upd (encStep (encB s) n t p).2 (t % n) ((decB s (encB s (p.1 ++ p.2 (t % n)))).drop 8)) := by
    have e2 : mixed (encStep (encB s) n t p).1 (b8 (t + 1)) 8 ++ (encStep (encB s) n t p).2 (t % n) = encB s (p.1 ++ p.2 (t % n)) := by
      simp only [encStep, upd_same]
      rw [mixed_take _ _ (by rw [mixed_len]; exact hB), mixed_twice, List.take_append_drop]
    unfold decStep
    rw [e2]
  rw [e1, dec_encB s _ hx]
  have e3 : (p.1 ++ p.2 (t % n)).take 8 = p.1 := by
    rw [List.take_append_of_le_length (by rw [h.1]; exact Nat.le_refl _)]
    exact List.take_of_length_le (by rw [h.1]; exact Nat.le_refl _)
  have e4 : (p.1 ++ p.2 (t % n)).drop 8 = p.2 (t % n) := by
    rw [List.drop_append, List.drop_eq_nil_of_le (by rw [h.1]; exact Nat.le_refl _), h.1]
    simp
  rw [e3, e4]
  refine Prod.ext rfl (funext fun j => ?_)
  simp only [encStep, upd]
  split
  · rename_i e
    rw [e]
  · rfl
theorem undo_run (s n : Nat) (h1 : 1 ≤ n) (p : List UInt8 × (Nat → List UInt8)) (h : Good n p) : ∀ t, decRun (decB s) n t (encRun (encB s) n t p) = p
  | 0 => rfl
  | t + 1 => by
    rw [decRun, encRun, undo_step s n t h1 _ (good_run s n h1 p h t)]
    exact undo_run s n h1 p h t
theorem alike_step (D : List UInt8 → List UInt8) (n t : Nat) (h1 : 1 ≤ n) (p q : List UInt8 × (Nat → List UInt8)) (h : Alike n p q) : Alike n (decStep D n t p) (decStep D n t q) := by
  have hi := h.2 _ (Nat.mod_lt t h1)
  refine ⟨?_, fun j hj => ?_⟩
  · simp only [decStep, h.1, hi]
  · simp only [decStep, upd, h.1, hi, h.2 j hj]
theorem alike_run (D : List UInt8 → List UInt8) (n : Nat) (h1 : 1 ≤ n) : ∀ (t : Nat) (p q : List UInt8 × (Nat → List UInt8)), Alike n p q → Alike n (decRun D n t p) (decRun D n t q)
  | 0, _, _, h => h
  | t + 1, p, q, h => alike_run D n h1 t _ _ (alike_step D n t h1 p q h)
theorem flat_alike (ws vs : Nat → List UInt8) : ∀ n, (∀ j, j < n → ws j = vs j) → flat ws n = flat vs n
  | 0, _ => rfl
  | n + 1, h => by rw [flat, flat, flat_alike ws vs n (fun j hj => h j (by omega)), h n (by omega)]
theorem flat_word (bs : List UInt8) : ∀ n, 8 * n ≤ bs.length → flat (word bs) n = bs.take (8 * n)
  | 0, _ => by simp [flat]
  | n + 1, h => by
    rw [flat, flat_word bs n (by omega), word, show 8 * (n + 1) = 8 * n + 8 by omega, List.take_add]
theorem flat_drop (ws : Nat → List UInt8) : ∀ (n j : Nat), (∀ i, i < n → (ws i).length = 8) → j < n → ((flat ws n).drop (8 * j)).take 8 = ws j
  | 0, j, _, hj => absurd hj (by omega)
  | n + 1, j, h, hj => by
    have hl := flat_len ws n (fun i hi => h i (by omega))
    rw [flat]
    by_cases e : j = n
    · subst e
      rw [List.drop_append, List.drop_eq_nil_of_le (by omega), hl]
      simp only [Nat.sub_self, List.drop_zero, List.nil_append]
      exact List.take_of_length_le (by rw [h j (by omega)]; exact Nat.le_refl _)
    · rw [List.drop_append_of_le_length (by omega), List.take_append_of_le_length (by rw [List.length_drop, hl]; omega)]
      exact flat_drop ws n j (fun i hi => h i (by omega)) (by omega)
theorem word_cat (a : List UInt8) (ws : Nat → List UInt8) (n j : Nat) (ha : a.length = 8) (h : ∀ i, i < n → (ws i).length = 8) (hj : j < n) : wd1 (a ++ flat ws n) j = ws j := by
  unfold wd1 word
  rw [List.drop_append, List.drop_eq_nil_of_le (by omega), ha, show 8 * (j + 1) - 8 = 8 * j by omega, List.nil_append]
  exact flat_drop ws n j h hj
theorem IV_len : IV.length = 8 := by simp [IV]
theorem un_wrap (s n : Nat) (bs : List UInt8) (h1 : 1 ≤ n) (hl : bs.length = 8 * n) : (unRun (decB s) n (wrapB (encB s) n bs)).1 = IV ∧ flat (unRun (decB s) n (wrapB (encB s) n bs)).2 n = bs := by
  have hg : Good n (IV, word bs) := ⟨IV_len, fun j hj => word_len bs n j hl hj⟩
  have hr := good_run s n h1 _ hg (6 * n)
  have ha : Alike n ((wrapB (encB s) n bs).take 8, wd1 (wrapB (encB s) n bs)) (encRun (encB s) n (6 * n) (IV, word bs)) := by
    refine ⟨?_, fun j hj => word_cat _ _ n j hr.1 hr.2 hj⟩
    show (wrapB (encB s) n bs).take 8 = _
    rw [wrapB, List.take_append_of_le_length (by rw [hr.1]; exact Nat.le_refl _)]
    exact List.take_of_length_le (by rw [hr.1]; exact Nat.le_refl _)
  have hd := alike_run (decB s) n h1 (6 * n) _ _ ha
  rw [undo_run s n h1 _ hg] at hd
  refine ⟨hd.1, ?_⟩
  show flat (decRun (decB s) n (6 * n) _).2 n = bs
  rw [flat_alike _ _ n hd.2]
  show flat (word bs) n = bs
  rw [flat_word bs n (by omega), List.take_of_length_le (by omega)]
theorem wrap_len (s n : Nat) (bs : List UInt8) (h1 : 1 ≤ n) (hl : bs.length = 8 * n) : (wrapB (encB s) n bs).length = 8 * n + 8 := by
  have hg : Good n (IV, word bs) := ⟨IV_len, fun j hj => word_len bs n j hl hj⟩
  have hr := good_run s n h1 _ hg (6 * n)
  rw [wrapB, List.length_append, hr.1, flat_len _ n hr.2]
  omega
theorem wrap_inj (s n k : Nat) (a b : List UInt8) (h1 : 1 ≤ n) (h2 : 1 ≤ k) (ha : a.length = 8 * n) (hb : b.length = 8 * k) : (wrapB (encB s) n a == wrapB (encB s) k b) = (a == b) := by
  by_cases e : a = b
  · subst e
    obtain rfl : n = k := by omega
    simp
  · have hne : wrapB (encB s) n a ≠ wrapB (encB s) k b := by
      intro h
      have hl := congrArg List.length h
      rw [wrap_len s n a h1 ha, wrap_len s k b h2 hb] at hl
      obtain rfl : n = k := by omega
      have := (un_wrap s n a h1 ha).2
      rw [h, (un_wrap s n b h1 hb).2] at this
      exact e this.symm
    rw [beq_eq_false_iff_ne.2 hne, beq_eq_false_iff_ne.2 e]
end Go.Proofs.YteecamdcfkielaaDoor.Wr
