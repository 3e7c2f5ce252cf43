/- How the reference reads a text, in plain lists; no condition. -/
import Derived.Test.YtimicibalhaljaaPQuant
set_option linter.unusedVariables false
set_option linter.unusedSimpArgs false
namespace Go.Proofs.Ytimicibalhaljaa.B64
open Go.Proofs.Ytimicibalhaljaa.Own
/-- One letter: the bits, how many of them wait, what is written. -/
structure SS where
  bits : Nat
  have_ : Nat
  out : List UInt8
def sbits (b v : Nat) : Nat := (b * 64 + v) % 4294967296
def sstep (s : SS) (v : Nat) : SS :=
  if s.have_ + 6 ≥ 8 then ⟨sbits s.bits v, s.have_ - 2, s.out ++ [UInt8.ofNat (sbits s.bits v / 2 ^ (s.have_ - 2))]⟩ else ⟨sbits s.bits v, s.have_ + 6, s.out⟩
def sfold (f : UInt8 → Nat) : SS → List UInt8 → Option SS
  | s, [] => some s
  | s, c :: r => if f c < 64 then sfold f (sstep s (f c)) r else none
theorem sstep0 (b v : Nat) (o : List UInt8) : sstep ⟨b, 0, o⟩ v = ⟨sbits b v, 6, o⟩ := rfl
theorem sstep6 (b v : Nat) (o : List UInt8) : sstep ⟨b, 6, o⟩ v = ⟨sbits b v, 4, o ++ [UInt8.ofNat (sbits b v / 16)]⟩ := rfl
theorem sstep4 (b v : Nat) (o : List UInt8) : sstep ⟨b, 4, o⟩ v = ⟨sbits b v, 2, o ++ [UInt8.ofNat (sbits b v / 4)]⟩ := rfl
theorem sstep2 (b v : Nat) (o : List UInt8) : sstep ⟨b, 2, o⟩ v = ⟨sbits b v, 0, o ++ [UInt8.ofNat (sbits b v / 1)]⟩ := rfl
theorem s_two (b x y z w : Nat) (hx : x < 64) (hy : y < 64) : UInt8.ofNat (sbits (sbits b x) y / 16) = UInt8.ofNat (n4 x y z w / 65536) ∨ ¬ (z < 64 ∧ w < 64) := by
  by_cases h : z < 64 ∧ w < 64
  · left
    apply UInt8.toNat_inj.1
    simp only [UInt8.toNat_ofNat', sbits, n4]
    omega
  · exact Or.inr h
theorem s_2 (b x y z w : Nat) (hx : x < 64) (hy : y < 64) (hz : z < 64) (hw : w < 64) : UInt8.ofNat (sbits (sbits b x) y / 16) = UInt8.ofNat (n4 x y z w / 65536) :=
  (s_two b x y z w hx hy).resolve_right (fun h => h ⟨hz, hw⟩)
theorem s_3 (b x y z w : Nat) (hx : x < 64) (hy : y < 64) (hz : z < 64) (hw : w < 64) : UInt8.ofNat (sbits (sbits (sbits b x) y) z / 4) = UInt8.ofNat (n4 x y z w / 256) := by
  apply UInt8.toNat_inj.1
  simp only [UInt8.toNat_ofNat', sbits, n4]
  omega
theorem s_4 (b x y z w : Nat) (hx : x < 64) (hy : y < 64) (hz : z < 64) (hw : w < 64) : UInt8.ofNat (sbits (sbits (sbits (sbits b x) y) z) w / 1) = UInt8.ofNat (n4 x y z w) := by
  apply UInt8.toNat_inj.1
  simp only [UInt8.toNat_ofNat', sbits, n4]
  omega
def sOut (f : UInt8 → Nat) (b : Nat) (out t : List UInt8) : Option (List UInt8) := (sfold f ⟨b, 0, out⟩ t).map SS.out
theorem sOut4 (f : UInt8 → Nat) (b : Nat) (out r : List UInt8) (c0 c1 c2 c3 : UInt8) (h0 : f c0 < 64) (h1 : f c1 < 64) (h2 : f c2 < 64) (h3 : f c3 < 64) :
    ∃ b', sOut f b out (c0 :: c1 :: c2 :: c3 :: r) = sOut f b' (out ++ by3 (n4 (f c0) (f c1) (f c2) (f c3))) r := by
  refine ⟨sbits (sbits (sbits (sbits b (f c0)) (f c1)) (f c2)) (f c3), ?_⟩
  simp only [sOut, sfold, if_pos h0, if_pos h1, if_pos h2, if_pos h3, sstep0, sstep6, sstep4, sstep2]
  rw [s_2 b _ _ _ _ h0 h1 h2 h3, s_3 b _ _ _ _ h0 h1 h2 h3, s_4 b _ _ _ _ h0 h1 h2 h3]
  simp only [by3, List.append_assoc, List.cons_append, List.nil_append]
theorem sOut_bad4 (f : UInt8 → Nat) (b : Nat) (out r : List UInt8) (c0 c1 c2 c3 : UInt8) (h : ¬ ok4 f c0 c1 c2 c3 = true) : sOut f b out (c0 :: c1 :: c2 :: c3 :: r) = none := by
  simp only [sOut, sfold]
  split
  · split
    · split
      · split
        · exact absurd (by simp_all [ok4]) h
        · rfl
      · rfl
    · rfl
  · rfl
theorem ok4_parts {f : UInt8 → Nat} {a b c d : UInt8} (h : ok4 f a b c d = true) : f a < 64 ∧ f b < 64 ∧ f c < 64 ∧ f d < 64 := by
  simp only [ok4, Bool.and_eq_true, decide_eq_true_eq] at h
  exact ⟨h.1.1.1, h.1.1.2, h.1.2, h.2⟩
theorem sOut2 (f : UInt8 → Nat) (b : Nat) (out : List UInt8) (c0 c1 : UInt8) : sOut f b out [c0, c1] = if f c0 < 64 ∧ f c1 < 64 then some (out ++ (by3 (n4 (f c0) (f c1) 0 0)).take 1) else none := by
  simp only [sOut, sfold]
  by_cases h0 : f c0 < 64
  · by_cases h1 : f c1 < 64
    · rw [if_pos h0, if_pos h1, if_pos ⟨h0, h1⟩, sstep0, sstep6, s_2 b _ _ 0 0 h0 h1 (by decide) (by decide)]; rfl
    · rw [if_pos h0, if_neg h1, if_neg (fun h => h1 h.2)]; rfl
  · rw [if_neg h0, if_neg (fun h => h0 h.1)]; rfl
theorem sOut3 (f : UInt8 → Nat) (b : Nat) (out : List UInt8) (c0 c1 c2 : UInt8) : sOut f b out [c0, c1, c2] = if f c0 < 64 ∧ f c1 < 64 ∧ f c2 < 64 then some (out ++ (by3 (n4 (f c0) (f c1) (f c2) 0)).take 2) else none := by
  simp only [sOut, sfold]
  by_cases h0 : f c0 < 64
  · by_cases h1 : f c1 < 64
    · by_cases h2 : f c2 < 64
      · rw [if_pos h0, if_pos h1, if_pos h2, if_pos ⟨h0, h1, h2⟩, sstep0, sstep6, sstep4, s_2 b _ _ _ 0 h0 h1 h2 (by decide), s_3 b _ _ _ 0 h0 h1 h2 (by decide)]
        simp [by3]
      · rw [if_pos h0, if_pos h1, if_neg h2, if_neg (fun h => h2 h.2.2)]; rfl
    · rw [if_pos h0, if_neg h1, if_neg (fun h => h1 h.2.1)]; rfl
  · rw [if_neg h0, if_neg (fun h => h0 h.1)]; rfl
/-- Without padding. -/
theorem sOut_raw (f : UInt8 → Nat) : ∀ (n : Nat) (t : List UInt8), t.length ≤ n → t.length % 4 ≠ 1 → ∀ b out, sOut f b out t = (decL f false t).map (out ++ ·)
  | 0, t, h, _, b, out => by
    obtain rfl : t = [] := List.eq_nil_of_length_eq_zero (by omega)
    simp [sOut, sfold, decL]
  | n + 1, t, h, h1, b, out => by
    match t, h, h1 with
    | [], _, _ => simp [sOut, sfold, decL]
    | [a], _, h1 => simp at h1
    | [a, c], _, _ =>
      rw [sOut2]; simp only [decL, tailD, Bool.not_false, Bool.true_and]
      by_cases hh : f a < 64 ∧ f c < 64
      · rw [if_pos hh, if_pos (by simp [hh.1, hh.2])]; rfl
      · rw [if_neg hh, if_neg (by simpa using hh)]; rfl
    | [a, c, d], _, _ =>
      rw [sOut3]; simp only [decL, tailD, Bool.not_false, Bool.true_and]
      by_cases hh : f a < 64 ∧ f c < 64 ∧ f d < 64
      · rw [if_pos hh, if_pos (by simp [hh.1, hh.2.1, hh.2.2])]; rfl
      · rw [if_neg hh, if_neg (by simpa [and_assoc] using hh)]; rfl
    | c0 :: c1 :: c2 :: c3 :: r, h, h1 =>
      by_cases hk : ok4 f c0 c1 c2 c3 = true
      · obtain ⟨k0, k1, k2, k3⟩ := ok4_parts hk
        obtain ⟨b', hb⟩ := sOut4 f b out r c0 c1 c2 c3 k0 k1 k2 k3
        rw [hb, sOut_raw f n r (by simp at h; omega) (by simp at h1; omega), decL, if_pos hk, Option.map_map]
        congr 1
        funext x; simp
      · rw [sOut_bad4 f b out r c0 c1 c2 c3 hk, decL, if_neg hk]
        match r with
        | [] => simp [tailD]
        | _ :: _ => simp [tailD]
/-- How many letters stand ahead of the padding. -/
def strip (t : List UInt8) : Nat := if bt t (t.length - 1) = 61 then (if bt t (t.length - 2) = 61 then 2 else 1) else 0
def refDec (f : UInt8 → Nat) (pad : Bool) (t : List UInt8) : Option (List UInt8) :=
  if (t.length - (if pad then strip t else 0)) % 4 = 1 ∨ (pad = true ∧ t.length % 4 ≠ 0) then none
  else sOut f 0 [] (t.take (t.length - (if pad then strip t else 0)))
theorem bt_cons4 (a b c d : UInt8) (r : List UInt8) (k : Nat) (h : 4 ≤ k) : bt (a :: b :: c :: d :: r) k = bt r (k - 4) := by
  obtain ⟨j, rfl⟩ : ∃ j, k = j + 4 := ⟨k - 4, by omega⟩
  simp [bt]
theorem strip_cons4 (a b c d : UInt8) (r : List UInt8) (h : 4 ≤ r.length) : strip (a :: b :: c :: d :: r) = strip r := by
  unfold strip
  have e : (a :: b :: c :: d :: r).length = r.length + 4 := by simp
  rw [e, bt_cons4 _ _ _ _ _ _ (by omega), bt_cons4 _ _ _ _ _ _ (by omega), show r.length + 4 - 1 - 4 = r.length - 1 by omega, show r.length + 4 - 2 - 4 = r.length - 2 by omega]
theorem strip_le (t : List UInt8) : strip t ≤ 2 := by unfold strip; split <;> (try split) <;> omega
theorem sOut_pad (f : UInt8 → Nat) (hf : ¬ f 61 < 64) : ∀ (n : Nat) (t : List UInt8), t.length ≤ n → t.length % 4 = 0 → ∀ b out, sOut f b out (t.take (t.length - strip t)) = (decL f true t).map (out ++ ·)
  | 0, t, h, _, b, out => by
    obtain rfl : t = [] := List.eq_nil_of_length_eq_zero (by omega)
    simp [sOut, sfold, decL]
  | n + 1, t, h, h1, b, out => by
    match t, h, h1 with
    | [], _, _ => simp [sOut, sfold, decL]
    | [_], _, h1 => simp at h1
    | [_, _], _, h1 => simp at h1
    | [_, _, _], _, h1 => simp at h1
    | [c0, c1, c2, c3], h, h1 =>
      by_cases e3 : c3 = 61
      · by_cases e2 : c2 = 61
        · have es : strip [c0, c1, c2, c3] = 2 := by simp [strip, bt, e3, e2]
          rw [es]
          simp only [List.length_cons, List.length_nil, List.take]
          rw [sOut2, decL, if_neg (show ¬ ok4 f c0 c1 c2 c3 = true from fun ho => hf (e3 ▸ (ok4_parts ho).2.2.2))]
          simp only [tailD, e3, e2, Bool.true_and, beq_self_eq_true, Bool.and_true, if_true]
          by_cases hh : f c0 < 64 ∧ f c1 < 64
          · rw [if_pos hh, if_pos (by simp [hh.1, hh.2])]; rfl
          · rw [if_neg hh, if_neg (by simpa using hh)]; rfl
        · have es : strip [c0, c1, c2, c3] = 1 := by simp [strip, bt, e3, e2]
          rw [es]
          simp only [List.length_cons, List.length_nil, List.take]
          rw [sOut3, decL, if_neg (show ¬ ok4 f c0 c1 c2 c3 = true from fun ho => hf (e3 ▸ (ok4_parts ho).2.2.2))]
          simp only [tailD, e3, Bool.true_and, beq_self_eq_true, Bool.and_true]
          rw [if_neg (show ¬ (c2 == 61) = true by simpa using e2)]
          by_cases hh : f c0 < 64 ∧ f c1 < 64 ∧ f c2 < 64
          · rw [if_pos hh, if_pos (by simp [hh.1, hh.2.1]), if_pos (by simpa using hh.2.2)]; rfl
          · rw [if_neg hh]
            by_cases h2 : f c0 < 64 ∧ f c1 < 64
            · rw [if_pos (by simp [h2.1, h2.2]), if_neg (by simpa using fun h3 => hh ⟨h2.1, h2.2, h3⟩)]; rfl
            · rw [if_neg (by simpa using h2)]; rfl
      · have es : strip [c0, c1, c2, c3] = 0 := by simp [strip, bt, e3]
        rw [es]
        by_cases hk : ok4 f c0 c1 c2 c3 = true
        · obtain ⟨k0, k1, k2, k3⟩ := ok4_parts hk
          obtain ⟨b', hb⟩ := sOut4 f b out [] c0 c1 c2 c3 k0 k1 k2 k3
          rw [decL, if_pos hk, List.take_of_length_le (by simp), hb]
          simp [sOut, sfold, decL]
        · rw [decL, if_neg hk, List.take_of_length_le (by simp), sOut_bad4 f b out [] c0 c1 c2 c3 hk]
          simp [tailD, e3]
    | c0 :: c1 :: c2 :: c3 :: x :: r, h, h1 =>
      have hl : 4 ≤ (x :: r).length := by simp at h1 ⊢; omega
      rw [strip_cons4 _ _ _ _ _ hl]
      have hs := strip_le (x :: r)
      have et : (c0 :: c1 :: c2 :: c3 :: x :: r).take ((c0 :: c1 :: c2 :: c3 :: x :: r).length - strip (x :: r)) = c0 :: c1 :: c2 :: c3 :: (x :: r).take ((x :: r).length - strip (x :: r)) := by
        have e : (c0 :: c1 :: c2 :: c3 :: x :: r).length - strip (x :: r) = ((x :: r).length - strip (x :: r)) + 4 := by
          simp only [List.length_cons] at hl ⊢; omega
        rw [e]; rfl
      rw [et]
      by_cases hk : ok4 f c0 c1 c2 c3 = true
      · obtain ⟨k0, k1, k2, k3⟩ := ok4_parts hk
        obtain ⟨b', hb⟩ := sOut4 f b out ((x :: r).take ((x :: r).length - strip (x :: r))) c0 c1 c2 c3 k0 k1 k2 k3
        rw [hb, sOut_pad f hf n (x :: r) (by simp at h ⊢; omega) (by simp at h1 ⊢; omega), decL, if_pos hk, Option.map_map]
        congr 1
        funext y; simp
      · rw [sOut_bad4 f b out _ c0 c1 c2 c3 hk, decL, if_neg hk]
        simp [tailD]
theorem decL_odd (f : UInt8 → Nat) (hf : ¬ f 61 < 64) : ∀ (n : Nat) (t : List UInt8), t.length ≤ n → t.length % 4 ≠ 0 → decL f true t = none
  | 0, t, h, h1 => by simp [List.eq_nil_of_length_eq_zero (show t.length = 0 by omega)] at h1
  | n + 1, t, h, h1 => by
    match t, h, h1 with
    | [], _, h1 => simp at h1
    | [_], _, _ => simp [decL, tailD]
    | [_, _], _, _ => simp [decL, tailD]
    | [_, _, _], _, _ => simp [decL, tailD]
    | [_, _, _, _], _, h1 => simp at h1
    | c0 :: c1 :: c2 :: c3 :: x :: r, h, h1 =>
      rw [decL, decL_odd f hf n (x :: r) (by simp at h ⊢; omega) (by simp at h1 ⊢; omega)]
      split
      · rfl
      · simp [tailD]
theorem decL_raw1 (f : UInt8 → Nat) : ∀ (n : Nat) (t : List UInt8), t.length ≤ n → t.length % 4 = 1 → decL f false t = none
  | 0, t, h, h1 => by simp [List.eq_nil_of_length_eq_zero (show t.length = 0 by omega)] at h1
  | n + 1, t, h, h1 => by
    match t, h, h1 with
    | [], _, h1 => simp at h1
    | [_], _, _ => simp [decL, tailD]
    | [_, _], _, h1 => simp at h1
    | [_, _, _], _, h1 => simp at h1
    | [_, _, _, _], _, h1 => simp at h1
    | c0 :: c1 :: c2 :: c3 :: x :: r, h, h1 =>
      rw [decL, decL_raw1 f n (x :: r) (by simp at h ⊢; omega) (by simp at h1 ⊢; omega)]
      split
      · rfl
      · simp [tailD]
theorem map_nil_app (o : Option (List UInt8)) : o.map (([] : List UInt8) ++ ·) = o := by cases o <;> rfl
theorem refDec_eq (f : UInt8 → Nat) (hf : ¬ f 61 < 64) (p : Bool) (t : List UInt8) : refDec f p t = decL f p t := by
  unfold refDec
  cases p with
  | false =>
    simp only [Bool.false_eq_true, if_false, Nat.sub_zero, false_and, or_false]
    by_cases h : t.length % 4 = 1
    · rw [if_pos h, decL_raw1 f _ t (Nat.le_refl _) h]
    · rw [if_neg h, List.take_of_length_le (Nat.le_refl _), sOut_raw f _ t (Nat.le_refl _) h, map_nil_app]
  | true =>
    simp only [if_true, true_and]
    by_cases h : t.length % 4 = 0
    · have hs := strip_le t
      rw [if_neg (by rcases Nat.eq_zero_or_pos t.length with h0 | h0
                     · rw [h0]; simp
                     · omega), sOut_pad f hf _ t (Nat.le_refl _) h, map_nil_app]
    · rw [if_pos (Or.inr h), decL_odd f hf _ t (Nat.le_refl _) h]
end Go.Proofs.Ytimicibalhaljaa.B64
