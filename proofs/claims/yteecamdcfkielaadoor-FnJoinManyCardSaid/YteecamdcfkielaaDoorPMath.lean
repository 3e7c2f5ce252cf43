/- base64 as plain lists: what is written, what is read; no condition. -/
import Derived.Test.YteecamdcfkielaaDoorB64Fns
set_option linter.unusedVariables false
set_option linter.unusedSimpArgs false
namespace Go.Proofs.YteecamdcfkielaaDoor.B64
open Go.Proofs.YteecamdcfkielaaDoor.Own
/-! encoding -/
def encL (al : List UInt8) (pad : Bool) : List UInt8 → List UInt8
  | a :: b :: c :: r => let4 al (a.toNat * 65536 + b.toNat * 256 + c.toNat) ++ encL al pad r
  | [a, b] => (let4 al (a.toNat * 65536 + b.toNat * 256)).take 3 ++ (if pad then [61] else [])
  | [a] => (let4 al (a.toNat * 65536)).take 2 ++ (if pad then [61, 61] else [])
  | [] => []
theorem encL_groups (al bs : List UInt8) (p : Bool) : ∀ j, 3 * j ≤ bs.length → encL al p bs = encG al bs j ++ encL al p (bs.drop (3 * j))
  | 0, _ => by simp [encG]
  | j + 1, h => by
    rw [encL_groups al bs p j (by omega), encG, List.append_assoc]
    congr 1
    have e : bs.drop (3 * j) = bt bs (3 * j) :: bt bs (3 * j + 1) :: bt bs (3 * j + 2) :: bs.drop (3 * (j + 1)) := by
      rw [List.drop_eq_getElem_cons (by omega), List.drop_eq_getElem_cons (by omega), List.drop_eq_getElem_cons (by omega), bt_get _ _ (by omega), bt_get _ _ (by omega), bt_get _ _ (by omega)]
      rfl
    rw [e, encL, val3]
theorem encRaw_eq (al bs : List UInt8) : encRaw al bs = encL al false bs := by
  rw [encL_groups al bs false (bs.length / 3) (by omega), encRaw]
  congr 1
  unfold encT
  have h : bs.length % 3 < 3 := Nat.mod_lt _ (by decide)
  have hm : 3 * (bs.length / 3) = bs.length / 3 * 3 := Nat.mul_comm _ _
  by_cases h1 : bs.length % 3 = 1
  · have e : bs.drop (3 * (bs.length / 3)) = [bt bs (bs.length / 3 * 3)] := by
      rw [hm, List.drop_eq_getElem_cons (by omega), List.drop_eq_nil_of_le (by omega), bt_get _ _ (by omega)]
    rw [if_pos h1, e, encL]; simp
  · by_cases h2 : bs.length % 3 = 2
    · have e : bs.drop (3 * (bs.length / 3)) = [bt bs (bs.length / 3 * 3), bt bs (bs.length / 3 * 3 + 1)] := by
        rw [hm, List.drop_eq_getElem_cons (by omega), List.drop_eq_getElem_cons (by omega), List.drop_eq_nil_of_le (by omega), bt_get _ _ (by omega), bt_get _ _ (by omega)]
      rw [if_neg h1, if_pos h2, e, encL]; simp
    · rw [if_neg h1, if_neg h2, List.drop_eq_nil_of_le (by omega), encL]
theorem encL_app (al : List UInt8) (p : Bool) : ∀ (a b : List UInt8), a.length % 3 = 0 → encL al p (a ++ b) = encL al p a ++ encL al p b
  | [], b, _ => by simp [encL]
  | [x], b, h => by simp at h
  | [x, y], b, h => by simp at h
  | x :: y :: z :: r, b, h => by
    have ih := encL_app al p r b (by simp at h; omega)
    simp only [List.cons_append, encL, ih, List.append_assoc]
/-! decoding -/
def by3 (v : Nat) : List UInt8 := [UInt8.ofNat (v / 65536), UInt8.ofNat (v / 256), UInt8.ofNat v]
theorem by3_len (v : Nat) : (by3 v).length = 3 := rfl
def n4 (a b c d : Nat) : Nat := a * 262144 + b * 4096 + c * 64 + d
def ok4 (f : UInt8 → Nat) (a b c d : UInt8) : Bool := decide (f a < 64) && decide (f b < 64) && decide (f c < 64) && decide (f d < 64)
/-- The end of a text: what is left behind whole groups. -/
def tailD (f : UInt8 → Nat) (pad : Bool) : List UInt8 → Option (List UInt8)
  | [a, b] => if !pad && decide (f a < 64) && decide (f b < 64) then some ((by3 (n4 (f a) (f b) 0 0)).take 1) else none
  | [a, b, c] => if !pad && decide (f a < 64) && decide (f b < 64) && decide (f c < 64) then some ((by3 (n4 (f a) (f b) (f c) 0)).take 2) else none
  | [a, b, c, d] => if pad && decide (f a < 64) && decide (f b < 64) && (d == 61) then (if c == 61 then some ((by3 (n4 (f a) (f b) 0 0)).take 1) else if decide (f c < 64) then some ((by3 (n4 (f a) (f b) (f c) 0)).take 2) else none) else none
  | _ => none
def decL (f : UInt8 → Nat) (pad : Bool) : List UInt8 → Option (List UInt8)
  | a :: b :: c :: d :: r => if ok4 f a b c d then (decL f pad r).map (by3 (n4 (f a) (f b) (f c) (f d)) ++ ·) else tailD f pad (a :: b :: c :: d :: r)
  | [] => some []
  | r => tailD f pad r
/-- The first q groups. -/
def v4 (f : UInt8 → Nat) (t : List UInt8) (q : Nat) : Nat := n4 (f (bt t (4 * q))) (f (bt t (4 * q + 1))) (f (bt t (4 * q + 2))) (f (bt t (4 * q + 3)))
def decG (f : UInt8 → Nat) (t : List UInt8) : Nat → List UInt8
  | 0 => []
  | q + 1 => decG f t q ++ by3 (v4 f t q)
theorem decG_len (f : UInt8 → Nat) (t : List UInt8) : ∀ q, (decG f t q).length = 3 * q
  | 0 => rfl
  | q + 1 => by rw [decG, List.length_append, decG_len f t q, by3_len]; omega
def okG (f : UInt8 → Nat) (t : List UInt8) (q : Nat) : Prop := ∀ i, i < 4 * q → f (bt t i) < 64
theorem decL_groups (f : UInt8 → Nat) (p : Bool) (t : List UInt8) : ∀ q, 4 * q ≤ t.length → okG f t q → decL f p t = (decL f p (t.drop (4 * q))).map (decG f t q ++ ·)
  | 0, _, _ => by simp [decG]
  | q + 1, h, hk => by
    rw [decL_groups f p t q (by omega) (fun i hi => hk i (by omega))]
    have e : t.drop (4 * q) = bt t (4 * q) :: bt t (4 * q + 1) :: bt t (4 * q + 2) :: bt t (4 * q + 3) :: t.drop (4 * (q + 1)) := by
      rw [List.drop_eq_getElem_cons (by omega), List.drop_eq_getElem_cons (by omega), List.drop_eq_getElem_cons (by omega), List.drop_eq_getElem_cons (by omega), bt_get _ _ (by omega), bt_get _ _ (by omega), bt_get _ _ (by omega), bt_get _ _ (by omega)]
      rfl
    rw [e, decL]
    have h4 : ok4 f (bt t (4 * q)) (bt t (4 * q + 1)) (bt t (4 * q + 2)) (bt t (4 * q + 3)) = true := by
      simp only [ok4, Bool.and_eq_true, decide_eq_true_eq]
      exact ⟨⟨⟨hk _ (by omega), hk _ (by omega)⟩, hk _ (by omega)⟩, hk _ (by omega)⟩
    rw [if_pos h4, Option.map_map, decG, v4]
    congr 1
    funext x
    simp
theorem decL_congr (f g : UInt8 → Nat) (p : Bool) : ∀ (n : Nat) (t : List UInt8), t.length ≤ n → (∀ c ∈ t, f c = g c) → decL f p t = decL g p t := by
  intro n
  induction n with
  | zero =>
    intro t ht h
    obtain rfl : t = [] := List.eq_nil_of_length_eq_zero (by omega)
    rfl
  | succ n ih =>
    intro t ht h
    match t, ht, h with
    | [], _, _ => rfl
    | [a], _, _ => rfl
    | [a, b], _, h => simp [decL, tailD, h a (by simp), h b (by simp)]
    | [a, b, c], _, h => simp [decL, tailD, h a (by simp), h b (by simp), h c (by simp)]
    | a :: b :: c :: d :: r, ht, h =>
      have hr := ih r (by simp at ht; omega) (fun x hx => h x (by simp [hx]))
      have ha := h a (by simp)
      have hb := h b (by simp)
      have hc := h c (by simp)
      have hd := h d (by simp)
      have hk : ok4 f a b c d = ok4 g a b c d := by simp [ok4, ha, hb, hc, hd]
      rw [decL, decL, hr, hk, ha, hb, hc, hd]
      congr 1
      cases r with
      | nil => simp [tailD, ha, hb, hc]
      | cons x r => simp [tailD]
/-- The number of a letter. -/
def dm_ (al : List UInt8) : List UInt8 := dmap al 64
def fL (al : List UInt8) (c : UInt8) : Nat := (bt (dmap al 64) c.toNat).toNat
theorem by3_back (a b c : UInt8) : by3 (a.toNat * 65536 + b.toNat * 256 + c.toNat) = [a, b, c] := by
  have ha := a.toNat_lt
  have hb := b.toNat_lt
  have hc := c.toNat_lt
  unfold by3
  congr 1
  · apply UInt8.toNat_inj.1; simp; omega
  · congr 1
    · apply UInt8.toNat_inj.1; simp; omega
    · congr 1
      apply UInt8.toNat_inj.1; simp <;> omega
theorem n4_split (v : Nat) (h : v < 16777216) : n4 (v / 262144 % 64) (v / 4096 % 64) (v / 64 % 64) (v % 64) = v := by unfold n4; omega
/-- An alphabet: each letter's number is found. -/
structure Alph (al : List UInt8) (f : UInt8 → Nat) : Prop where
  back : ∀ i, i < 64 → f (bt al i) = i
  eq_ : f 61 = 255
theorem Alph.lt {al : List UInt8} {f : UInt8 → Nat} (h : Alph al f) (i : Nat) (hi : i < 64) : f (bt al i) < 64 := by rw [h.back i hi]; exact hi
theorem decL_enc {al : List UInt8} {f : UInt8 → Nat} (h : Alph al f) (p : Bool) : ∀ (n : Nat) (bs : List UInt8), bs.length ≤ n → decL f p (encL al p bs) = some bs := by
  intro n
  have h61 := h.eq_
  induction n with
  | zero =>
    intro bs hb
    obtain rfl : bs = [] := List.eq_nil_of_length_eq_zero (by omega)
    rfl
  | succ n ih =>
    intro bs hb
    match bs, hb with
    | [], _ => rfl
    | [a], _ =>
      have ha := a.toNat_lt
      cases p
      · simp only [encL, let4, List.take, decL, tailD, List.append_nil, Bool.false_eq_true, if_false]
        rw [h.back _ (by omega), h.back _ (by omega), if_pos (by simp; omega)]
        congr 1
        have := by3_back a 0 0
        simp at this
        rw [show n4 (a.toNat * 65536 / 262144 % 64) (a.toNat * 65536 / 4096 % 64) 0 0 = a.toNat * 65536 by unfold n4; omega, this]
        rfl
      · have e : decL f true (bt al (a.toNat * 65536 / 262144 % 64) :: bt al (a.toNat * 65536 / 4096 % 64) :: 61 :: 61 :: []) = some [a] := by
          rw [decL, if_neg (by simp [ok4, h61]), tailD, h.back _ (by omega), h.back _ (by omega), if_pos (by simp; omega), if_pos (by rfl)]
          congr 1
          have := by3_back a 0 0
          simp at this
          rw [show n4 (a.toNat * 65536 / 262144 % 64) (a.toNat * 65536 / 4096 % 64) 0 0 = a.toNat * 65536 by unfold n4; omega, this]
          rfl
        exact e
    | [a, b], _ =>
      have ha := a.toNat_lt
      have hb := b.toNat_lt
      have e3 : n4 ((a.toNat * 65536 + b.toNat * 256) / 262144 % 64) ((a.toNat * 65536 + b.toNat * 256) / 4096 % 64) ((a.toNat * 65536 + b.toNat * 256) / 64 % 64) 0 = a.toNat * 65536 + b.toNat * 256 := by unfold n4; omega
      have e4 : by3 (a.toNat * 65536 + b.toNat * 256) = [a, b, 0] := by
        have := by3_back a b 0
        simpa using this
      cases p
      · simp only [encL, let4, List.take, decL, tailD, List.append_nil, Bool.false_eq_true, if_false]
        rw [h.back _ (by omega), h.back _ (by omega), h.back _ (by omega), if_pos (by simp; omega), e3, e4]
        rfl
      · have h2 : ((bt al ((a.toNat * 65536 + b.toNat * 256) / 64 % 64)) == (61 : UInt8)) = false := by
          rw [beq_eq_false_iff_ne]
          intro hh
          have := h.lt ((a.toNat * 65536 + b.toNat * 256) / 64 % 64) (by omega)
          rw [hh, h61] at this
          omega
        have e : decL f true (bt al ((a.toNat * 65536 + b.toNat * 256) / 262144 % 64) :: bt al ((a.toNat * 65536 + b.toNat * 256) / 4096 % 64) :: bt al ((a.toNat * 65536 + b.toNat * 256) / 64 % 64) :: 61 :: []) = some [a, b] := by
          rw [decL, if_neg (by simp [ok4, h61]), tailD, if_pos (by rw [h.back _ (by omega), h.back _ (by omega)]; simp; omega), h2, if_neg (by simp), h.back _ (by omega), h.back _ (by omega), h.back _ (by omega), if_pos (by simp; omega), e3, e4]
          rfl
        exact e
    | a :: b :: c :: r, hb =>
      have ih := ih r (by simp at hb; omega)
      have ha := a.toNat_lt
      have hb := b.toNat_lt
      have hc := c.toNat_lt
      obtain ⟨v, hv⟩ : ∃ v, v = a.toNat * 65536 + b.toNat * 256 + c.toNat := ⟨_, rfl⟩
      have e : decL f p (bt al (v / 262144 % 64) :: bt al (v / 4096 % 64) :: bt al (v / 64 % 64) :: bt al (v % 64) :: encL al p r) = some (a :: b :: c :: r) := by
        rw [decL, if_pos (by simp only [ok4, h.back _ (show v / 262144 % 64 < 64 by omega), h.back _ (show v / 4096 % 64 < 64 by omega), h.back _ (show v / 64 % 64 < 64 by omega), h.back _ (show v % 64 < 64 by omega)]; simp; omega), ih, h.back _ (by omega), h.back _ (by omega), h.back _ (by omega), h.back _ (by omega), n4_split v (by omega), hv, by3_back]
        rfl
      rw [hv] at e
      exact e
theorem alStd_ok : Alph alStd (fL alStd) := ⟨by decide +kernel, by decide +kernel⟩
theorem alURL_ok : Alph alURL (fL alURL) := ⟨by decide +kernel, by decide +kernel⟩
/-- Which form a text has, and what it reads as. -/
def isStd (t : List UInt8) : Bool := t.any fun c => c == 43 || c == 47
def isPad (t : List UInt8) : Bool := t.getLast? == some 61
def alOf (t : List UInt8) : List UInt8 := if isStd t then alStd else alURL
def partDec (t : List UInt8) : Option (List UInt8) := decL (fL (alOf t)) (isPad t) t
theorem enc_mem (al : List UInt8) (p : Bool) : ∀ (n : Nat) (bs : List UInt8), bs.length ≤ n → ∀ c ∈ encL al p bs, (∃ i, i < 64 ∧ c = bt al i) ∨ c = 61 := by
  intro n
  induction n with
  | zero =>
    intro bs hb c hc
    obtain rfl : bs = [] := List.eq_nil_of_length_eq_zero (by omega)
    simp [encL] at hc
  | succ n ih =>
    intro bs hb c hc
    match bs, hb, hc with
    | [], _, hc => simp [encL] at hc
    | [a], _, hc =>
      simp only [encL, let4, List.take, List.mem_append, List.mem_cons, List.not_mem_nil, or_false] at hc
      rcases hc with (rfl | rfl) | hc
      · exact .inl ⟨_, Nat.mod_lt _ (by decide), rfl⟩
      · exact .inl ⟨_, Nat.mod_lt _ (by decide), rfl⟩
      · cases p <;> simp at hc; exact .inr hc
    | [a, b], _, hc =>
      simp only [encL, let4, List.take, List.mem_append, List.mem_cons, List.not_mem_nil, or_false] at hc
      rcases hc with (rfl | rfl | rfl) | hc
      · exact .inl ⟨_, Nat.mod_lt _ (by decide), rfl⟩
      · exact .inl ⟨_, Nat.mod_lt _ (by decide), rfl⟩
      · exact .inl ⟨_, Nat.mod_lt _ (by decide), rfl⟩
      · cases p <;> simp at hc; exact .inr hc
    | a :: b :: d :: r, hb, hc =>
      simp only [encL, let4, List.mem_append, List.mem_cons, List.not_mem_nil, or_false] at hc
      rcases hc with (rfl | rfl | rfl | rfl) | hc
      · exact .inl ⟨_, Nat.mod_lt _ (by decide), rfl⟩
      · exact .inl ⟨_, Nat.mod_lt _ (by decide), rfl⟩
      · exact .inl ⟨_, Nat.mod_lt _ (by decide), rfl⟩
      · exact .inl ⟨_, Nat.mod_lt _ (by decide), rfl⟩
      · exact ih r (by simp at hb; omega) c hc
theorem url_none : ∀ i, i < 64 → bt alURL i ≠ 43 ∧ bt alURL i ≠ 47 := by decide +kernel
theorem std_same : ∀ i, i < 64 → bt alStd i = 43 ∨ bt alStd i = 47 ∨ fL alURL (bt alStd i) = fL alStd (bt alStd i) := by decide +kernel
theorem url_std (bs : List UInt8) (p : Bool) : isStd (encL alURL p bs) = false := by
  rw [isStd, List.any_eq_false]
  intro c hc
  rcases enc_mem alURL p _ bs (Nat.le_refl _) c hc with ⟨i, hi, rfl⟩ | rfl
  · have := url_none i hi
    simp [this.1, this.2]
  · decide
theorem enc_pad (al : List UInt8) (p : Bool) : ∀ (n : Nat) (bs : List UInt8), bs.length ≤ n → (∀ i, i < 64 → bt al i ≠ 61) → isPad (encL al p bs) = (p && decide (bs.length % 3 ≠ 0)) := by
  intro n
  induction n with
  | zero =>
    intro bs hb hne
    obtain rfl : bs = [] := List.eq_nil_of_length_eq_zero (by omega)
    simp [encL, isPad]
  | succ n ih =>
    intro bs hb hne
    match bs, hb with
    | [], _ => simp [encL, isPad]
    | [a], _ =>
      cases p
      · simp [encL, isPad, let4, hne _ (Nat.mod_lt _ (by decide : 64 > 0))]
      · simp [encL, isPad, let4]
    | [a, b], _ =>
      cases p
      · simp [encL, isPad, let4, hne _ (Nat.mod_lt _ (by decide : 64 > 0))]
      · simp [encL, isPad, let4]
    | a :: b :: c :: r, hb =>
      have ih := ih r (by simp at hb; omega) hne
      by_cases hr : r = []
      · subst hr
        simp [encL, isPad, let4, hne _ (Nat.mod_lt _ (by decide : 64 > 0))]
      · have hr2 : encL al p r ≠ [] := by
          match r, hr with
          | [x], _ => simp [encL, let4]
          | [x, y], _ => simp [encL, let4]
          | x :: y :: z :: r, _ => simp [encL, let4]
        have e : (let4 al (a.toNat * 65536 + b.toNat * 256 + c.toNat) ++ encL al p r).getLast? = (encL al p r).getLast? := by
          rw [List.getLast?_append]
          cases h : (encL al p r).getLast? with
          | none => exact absurd (List.getLast?_eq_none_iff.1 h) hr2
          | some x => rfl
        rw [encL, isPad, e, ← isPad, ih]
        have e3 : (a :: b :: c :: r).length % 3 = r.length % 3 := by simp; omega
        rw [e3]
theorem enc_whole (al : List UInt8) : ∀ (n : Nat) (bs : List UInt8), bs.length ≤ n → bs.length % 3 = 0 → encL al true bs = encL al false bs := by
  intro n
  induction n with
  | zero =>
    intro bs hb h
    obtain rfl : bs = [] := List.eq_nil_of_length_eq_zero (by omega)
    rfl
  | succ n ih =>
    intro bs hb h
    match bs, hb, h with
    | [], _, _ => rfl
    | [a], _, h => simp at h
    | [a, b], _, h => simp at h
    | a :: b :: c :: r, hb, h => rw [encL, encL, ih r (by simp at hb; omega) (by simp at h; omega)]
theorem std_61 : ∀ i, i < 64 → bt alStd i ≠ 61 := by decide +kernel
theorem url_61 : ∀ i, i < 64 → bt alURL i ≠ 61 := by decide +kernel
theorem partDec_url (p : Bool) (bs : List UInt8) : partDec (encL alURL p bs) = some bs := by
  rw [partDec, alOf, url_std, enc_pad alURL p _ bs (Nat.le_refl _) url_61]
  by_cases h3 : bs.length % 3 = 0
  · have e : encL alURL p bs = encL alURL false bs := by cases p; rfl; exact enc_whole _ _ bs (Nat.le_refl _) h3
    rw [e]
    simp only [h3]
    simp
    exact decL_enc alURL_ok false _ bs (Nat.le_refl _)
  · simp [h3]
    exact decL_enc alURL_ok p _ bs (Nat.le_refl _)
theorem partDec_std (p : Bool) (bs : List UInt8) : partDec (encL alStd p bs) = some bs := by
  have hp : decL (fL alStd) (isPad (encL alStd p bs)) (encL alStd p bs) = some bs := by
    rw [enc_pad alStd p _ bs (Nat.le_refl _) std_61]
    by_cases h3 : bs.length % 3 = 0
    · have e : encL alStd p bs = encL alStd false bs := by cases p; rfl; exact enc_whole _ _ bs (Nat.le_refl _) h3
      rw [e]
      simp only [h3]
      simp
      exact decL_enc alStd_ok false _ bs (Nat.le_refl _)
    · simp [h3]
      exact decL_enc alStd_ok p _ bs (Nat.le_refl _)
  rw [partDec, alOf]
  cases hs : isStd (encL alStd p bs) with
  | true => simpa using hp
  | false =>
    simp only [Bool.false_eq_true, if_false]
    rw [decL_congr (fL alURL) (fL alStd) _ _ _ (Nat.le_refl _), hp]
    intro c hc
    rw [isStd, List.any_eq_false] at hs
    have h1 := hs c hc
    rcases enc_mem alStd p _ bs (Nat.le_refl _) c hc with ⟨i, hi, rfl⟩ | rfl
    · rcases std_same i hi with h | h | h
      · rw [h] at h1; simp at h1
      · rw [h] at h1; simp at h1
      · exact h
    · decide +kernel
theorem encRaw_inj {a b : List UInt8} (h : encL alURL false a = encL alURL false b) : a = b := by
  have h1 := partDec_url false a
  rw [h, partDec_url false b] at h1
  exact (Option.some.inj h1).symm
theorem url_46 : ∀ i, i < 64 → bt alURL i ≠ 46 := by decide +kernel
theorem enc_nodot (p : Bool) (bs : List UInt8) : ∀ c ∈ encL alURL p bs, c ≠ 46 := by
  intro c hc
  rcases enc_mem alURL p _ bs (Nat.le_refl _) c hc with ⟨i, hi, rfl⟩ | rfl
  · exact url_46 i hi
  · decide
/-! without ends of lines -/
theorem url_nl : ∀ i, i < 64 → bt alURL i ≠ 10 ∧ bt alURL i ≠ 13 := by decide +kernel
theorem std_nl : ∀ i, i < 64 → bt alStd i ≠ 10 ∧ bt alStd i ≠ 13 := by decide +kernel
theorem enc_nl (al : List UInt8) (p : Bool) (hal : ∀ i, i < 64 → bt al i ≠ 10 ∧ bt al i ≠ 13) (bs : List UInt8) : ∀ c ∈ encL al p bs, c ≠ 10 ∧ c ≠ 13 := by
  intro c hc
  rcases enc_mem al p _ bs (Nat.le_refl _) c hc with ⟨i, hi, rfl⟩ | rfl
  · exact hal i hi
  · decide
end Go.Proofs.YteecamdcfkielaaDoor.B64
