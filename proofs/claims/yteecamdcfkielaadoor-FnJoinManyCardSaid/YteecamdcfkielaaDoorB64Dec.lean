/- The walk of Encoding.Decode on a text without ends of lines; the conditions are on sizes alone. -/
import Derived.Test.YteecamdcfkielaaDoorB64Put
import Derived.Deep.LoopGhost
import Derived.Deep.Cut
import Derived.Deep.CutRange
import Derived.Deep.CutBlock
import Derived.Deep.DeepCutAuto
import Derived.Outline
set_option linter.unusedVariables false
set_option linter.unusedSimpArgs false
namespace Go.Proofs.YteecamdcfkielaaDoor.B64
open Go.RowKit Go.Proofs.YteecamdcfkielaaDoor.K Go.Proofs.YteecamdcfkielaaDoor.Own
def pcOf (pad : Bool) : Int := if pad then 61 else -1
def dLen (pad : Bool) (L : Nat) : Nat := if pad then L / 4 * 3 else L / 4 * 3 + L % 4 * 6 / 8
theorem quantum_any (pad : Bool) (w : World) (g gd o s M cD L cS : Nat) (pd : Option Addr) (ad : Addr) (t r al dm : List UInt8) (cs : List Value) (f : UInt8 → Nat) (ha : al.length = 64) (hd : dm.length = 256)
    (hf : ∀ c, f c = (bt dm c.toNat).toNat) (hf2 : ∀ c, f c < 64 ∨ f c = 255) (hf61 : f 61 = 255) (hnl : ∀ c ∈ t, c ≠ 10 ∧ c ≠ 13)
    (hrb : RB w (some ad) L t) (hr : r = t.drop s) (hsL : s < L) (hL : L ≤ 100000) (hne : g ≠ gd)
    (hb : Blk w g 78 (encC al dm (pcOf pad)).toArray) (hbd : Blk w gd 5 cs.toArray) (hpd : 0 < M → pd = some ⟨gd, o, none⟩) (hM4 : 4 ≤ r.length → 3 ≤ M) (hM3 : pad = false → r.length = 3 → 2 ≤ M) (hM2 : pad = false → r.length = 2 → 1 ≤ M) (hoM : o + M ≤ cs.length) (hcD : M ≤ cD) :
    Calls Tryd.prog 68 #[.pointer (some ⟨g, 0, none⟩), .slice pd M cD, .slice (some ad) L cS, .int .i64 (s : Nat)] w (QPost w gd o s cs f pad r) := by
  cases pad
  · exact quantum_raw w g gd o s M cD L cS pd ad t r al dm cs f ha hd hf hf2 hf61 hnl hrb hr hsL hL hne hb hbd hpd hM4 hM3 hM2 hoM hcD
  · exact quantum_pad w g gd o s M cD L cS pd ad t r al dm cs f ha hd hf hf2 hf61 hnl hrb hr hsL hL hne hb hbd hpd hM4 hM3 hM2 hoM hcD
/-- Where Decode stands: s letters are read, out is written. -/
structure DSt (w wr : World) (gd M : Nat) (f : UInt8 → Nat) (pad : Bool) (t : List UInt8) (s : Nat) (out : List UInt8) : Prop where
  dec : decL f pad t = (decL f pad (t.drop s)).map (out ++ ·)
  blk : ∃ cur : List Value, Blk wr gd 5 cur.toArray ∧ cur.length = M ∧ cur.take out.length = bys out
  low : w.grownBy wr (some gd)
theorem DSt.drewN {w wr : World} {gd M : Nat} {f : UInt8 → Nat} {pad : Bool} {t : List UInt8} {s : Nat} {out : List UInt8} (h : DSt w wr gd M f pad t s out) (n : Nat) : DSt w (wr.drewN n) gd M f pad t s out := by
  obtain ⟨cur, hb, hl, ht⟩ := h.blk
  exact ⟨h.dec, ⟨cur, hb.drewN n, hl, ht⟩, grown_drewN h.low n⟩
theorem take_splice {cur : List Value} {out x y : List UInt8} (h : cur.take out.length = bys out) (hl : out.length + (x ++ y).length ≤ cur.length) : (splice cur out.length (bys (x ++ y))).take (out ++ x).length = bys (out ++ x) := by
  unfold splice
  rw [h, bys_append, List.append_assoc, ← List.append_assoc, ← bys_append, List.take_append_of_le_length (by rw [bys_length]; omega), List.take_of_length_le (by rw [bys_length]; omega)]
theorem DSt.quant {w wr w2 : World} {gd M : Nat} {f : UInt8 → Nat} {pad : Bool} {t : List UInt8} {s : Nat} {out o2 : List UInt8} {m : Nat} {cur : List Value} (h : DSt w wr gd M f pad t s out) (hs : s < t.length) (hq : quantR f pad (t.drop s) = some (o2, m))
    (hl : cur.length = M) (ht : cur.take out.length = bys out) (hle : out.length + o2.length ≤ M) (hb : Blk w2 gd 5 (splice cur out.length (bys o2)).toArray) (hg : wr.grownBy w2 (some gd)) : DSt w w2 gd M f pad t (s + m) (out ++ o2) := by
  refine ⟨?_, ⟨_, hb, ?_, ?_⟩, grown_trans h.low hg⟩
  · rw [h.dec, dec_step (r := t.drop s) (by intro e; have := congrArg List.length e; simp at this; omega), hq]
    simp only [List.drop_drop, Option.map_map]
    congr 1
    funext x
    simp
  · rw [splice_len _ _ _ (by rw [bys_length]; omega), hl]
  · have := take_splice (y := []) (x := o2) ht (by rw [List.append_nil]; omega)
    rwa [List.append_nil] at this
theorem quantR_4 (f : UInt8 → Nat) (pad : Bool) (t : List UInt8) (s : Nat) (h : s + 4 ≤ t.length) (h0 : f (bt t s) < 64) (h1 : f (bt t (s + 1)) < 64) (h2 : f (bt t (s + 2)) < 64) (h3 : f (bt t (s + 3)) < 64) :
    quantR f pad (t.drop s) = some (by3 (n4 (f (bt t s)) (f (bt t (s + 1))) (f (bt t (s + 2))) (f (bt t (s + 3)))), 4) := by
  have e : ∀ i, bt (t.drop s) i = bt t (s + i) := fun i => bt_drop t s i
  have := q_4 (f := f) (pad := pad) (r := t.drop s) (by rw [List.length_drop]; omega) (by rw [e]; exact h0) (by rw [e]; exact h1) (by rw [e]; exact h2) (by rw [e]; exact h3)
  rw [e, e, e, e] at this
  exact this
theorem DSt.one {w wr w2 : World} {gd M : Nat} {f : UInt8 → Nat} {pad : Bool} {t : List UInt8} {S N : Nat} {out : List UInt8} {cur : List Value} {x0 x1 x2 x3 : Nat} (h : DSt w wr gd M f pad t S out) (hs : S + 4 ≤ t.length)
    (hx : x0 = f (bt t (S + 0)) ∧ x1 = f (bt t (S + 1)) ∧ x2 = f (bt t (S + 2)) ∧ x3 = f (bt t (S + 3))) (hall : x0 < 64 ∧ x1 < 64 ∧ x2 < 64 ∧ x3 < 64)
    (hl : cur.length = M) (ht : cur.take out.length = bys out) (hN : out.length = N) (hle : N + 4 ≤ M) (y : List UInt8) (hy : y.length ≤ 1) (hb : Blk w2 gd 5 (splice cur N (bys (by3 (n4 x0 x1 x2 x3) ++ y))).toArray) (hg : wr.grownBy w2 (some gd)) :
    DSt w w2 gd M f pad t (S + 4) (out ++ by3 (n4 x0 x1 x2 x3)) := by
  obtain ⟨rfl, rfl, rfl, rfl⟩ := hx
  subst hN
  have hq := quantR_4 f pad t S hs hall.1 hall.2.1 hall.2.2.1 hall.2.2.2
  refine ⟨?_, ⟨_, hb, ?_, ?_⟩, grown_trans h.low hg⟩
  · rw [h.dec, dec_step (r := t.drop S) (by intro e; have := congrArg List.length e; simp at this; omega), hq]
    simp only [List.drop_drop, Option.map_map]
    congr 1
    funext x
    simp
  · rw [splice_len _ _ _ (by rw [bys_length, List.length_append, by3_len]; omega), hl]
  · exact take_splice ht (by rw [List.length_append, by3_len]; omega)
theorem DSt.two {w wr w2 : World} {gd M : Nat} {f : UInt8 → Nat} {pad : Bool} {t : List UInt8} {S N : Nat} {out : List UInt8} {cur : List Value} {x0 x1 x2 x3 x4 x5 x6 x7 : Nat} (h : DSt w wr gd M f pad t S out) (hs : S + 8 ≤ t.length)
    (hx : x0 = f (bt t (S + 0)) ∧ x1 = f (bt t (S + 1)) ∧ x2 = f (bt t (S + 2)) ∧ x3 = f (bt t (S + 3)) ∧ x4 = f (bt t (S + 4)) ∧ x5 = f (bt t (S + 5)) ∧ x6 = f (bt t (S + 6)) ∧ x7 = f (bt t (S + 7)))
    (hall : x0 < 64 ∧ x1 < 64 ∧ x2 < 64 ∧ x3 < 64 ∧ x4 < 64 ∧ x5 < 64 ∧ x6 < 64 ∧ x7 < 64)
    (hl : cur.length = M) (ht : cur.take out.length = bys out) (hN : out.length = N) (hle : N + 8 ≤ M) (y : List UInt8) (hy : y.length ≤ 2) (hb : Blk w2 gd 5 (splice cur N (bys (by3 (n4 x0 x1 x2 x3) ++ (by3 (n4 x4 x5 x6 x7) ++ y)))).toArray) (hg : wr.grownBy w2 (some gd)) :
    DSt w w2 gd M f pad t (S + 8) (out ++ (by3 (n4 x0 x1 x2 x3) ++ by3 (n4 x4 x5 x6 x7))) := by
  obtain ⟨rfl, rfl, rfl, rfl, rfl, rfl, rfl, rfl⟩ := hx
  subst hN
  have hq := quantR_4 f pad t S (by omega) hall.1 hall.2.1 hall.2.2.1 hall.2.2.2.1
  have hq2 := quantR_4 f pad t (S + 4) (by omega) hall.2.2.2.2.1 hall.2.2.2.2.2.1 hall.2.2.2.2.2.2.1 hall.2.2.2.2.2.2.2
  refine ⟨?_, ⟨_, hb, ?_, ?_⟩, grown_trans h.low hg⟩
  · rw [h.dec, dec_step (r := t.drop S) (by intro e; have := congrArg List.length e; simp at this; omega), hq]
    simp only [List.drop_drop, Option.map_map]
    rw [dec_step (r := t.drop (S + 4)) (by intro e; have := congrArg List.length e; simp at this; omega), hq2]
    simp only [List.drop_drop, Option.map_map]
    congr 1
    funext x
    simp
  · rw [splice_len _ _ _ (by simp only [bys_length, List.length_append, by3_len]; omega), hl]
  · rw [← List.append_assoc (by3 _)] at *
    exact take_splice ht (by simp only [List.length_append, by3_len]; omega)
theorem quantR_long {f : UInt8 → Nat} {pad : Bool} {r o2 : List UInt8} {m : Nat} (h : 4 < r.length ∨ (4 ≤ r.length ∧ pad = false)) (hq : quantR f pad r = some (o2, m)) : m = 4 ∧ o2.length = 3 := by
  rw [quantR] at hq
  split at hq
  · injection hq with hq
    injection hq with h1 h2
    exact ⟨h2.symm, by rw [← h1]; rfl⟩
  · rcases h with h | ⟨h, rfl⟩
    · rw [tailD_5 _ _ _ h] at hq
      cases hq
    · by_cases h5 : 4 < r.length
      · rw [tailD_5 _ _ _ h5] at hq
        cases hq
      · have e := list4 r (by omega)
        rw [e] at hq
        simp [tailD] at hq
theorem quantR_le {f : UInt8 → Nat} {pad : Bool} {r o2 : List UInt8} {m : Nat} (hq : quantR f pad r = some (o2, m)) : (m = 4 ∧ o2.length = 3) ∨ (m = r.length ∧ tailD f pad r = some o2) := by
  rw [quantR] at hq
  split at hq
  · injection hq with hq
    injection hq with h1 h2
    exact .inl ⟨h2.symm, by rw [← h1]; rfl⟩
  · cases ht : tailD f pad r with
    | none => rw [ht] at hq; cases hq
    | some x =>
      rw [ht] at hq
      injection hq with hq
      injection hq with h1 h2
      exact .inr ⟨h2.symm, by rw [h1]⟩
theorem tailD_len {f : UInt8 → Nat} {pad : Bool} {r o2 : List UInt8} (h : tailD f pad r = some o2) : (pad = false ∧ r.length = 2 ∧ o2.length = 1) ∨ (pad = false ∧ r.length = 3 ∧ o2.length = 2) ∨ (pad = true ∧ r.length = 4 ∧ o2.length ≤ 2) := by
  match r, h with
  | [a, b], h =>
    simp only [tailD] at h
    split at h
    · rename_i hc
      injection h with h
      refine .inl ⟨by simp at hc; exact hc.1.1, rfl, by rw [← h]; rfl⟩
    · cases h
  | [a, b, c], h =>
    simp only [tailD] at h
    split at h
    · rename_i hc
      injection h with h
      refine .inr (.inl ⟨by simp at hc; exact hc.1.1.1, rfl, by rw [← h]; rfl⟩)
    · cases h
  | [a, b, c, d], h =>
    simp only [tailD] at h
    split at h
    · rename_i hc
      refine .inr (.inr ⟨by simp at hc; exact hc.1.1.1, rfl, ?_⟩)
      split at h
      · injection h with h
        rw [← h]; simp [by3]
      · split at h
        · injection h with h
          rw [← h]; simp [by3]
        · cases h
    · cases h
/-- What Decode gives. -/
def DPost (w : World) (gd M : Nat) (f : UInt8 → Nat) (pad : Bool) (t : List UInt8) (e : Ending) (w' : World) : Prop :=
  w.grownBy w' (some gd) ∧
  ((∃ (out : List UInt8) (cur : List Value), decL f pad t = some out ∧ e = .returned (.tuple #[.int .i64 (out.length : Nat), .nilIface]) ∧ Blk w' gd 5 cur.toArray ∧ cur.length = M ∧ out.length ≤ M ∧ cur.take out.length = bys out) ∨
   (decL f pad t = none ∧ ∃ (x : Int) (T : TypeId) (v : Value), e = .returned (.tuple #[.int .i64 x, .iface T v])))
theorem DSt.bad {w wr w2 : World} {gd M : Nat} {f : UInt8 → Nat} {pad : Bool} {t : List UInt8} {s : Nat} {out : List UInt8} {e : Ending} (h : DSt w wr gd M f pad t s out) (hs : s < t.length) (hq : quantR f pad (t.drop s) = none) (hg : wr.grownBy w2 (some gd)) (x : Int) (T : TypeId) (v : Value)
    (he : e = .returned (.tuple #[.int .i64 x, .iface T v])) : DPost w gd M f pad t e w2 := by
  refine ⟨grown_trans h.low hg, .inr ⟨?_, x, T, v, he⟩⟩
  rw [h.dec, dec_step (r := t.drop s) (by intro e; have := congrArg List.length e; simp at this; omega), hq]
  rfl
theorem DSt.good {w wr : World} {gd M : Nat} {f : UInt8 → Nat} {pad : Bool} {t : List UInt8} {s : Nat} {out : List UInt8} {e : Ending} (h : DSt w wr gd M f pad t s out) (hs : t.length ≤ s) (hle : out.length ≤ M) (he : e = .returned (.tuple #[.int .i64 (out.length : Nat), .nilIface])) : DPost w gd M f pad t e wr := by
  obtain ⟨cur, hb, hl, ht⟩ := h.blk
  refine ⟨h.low, .inl ⟨out, cur, ?_, he, hb, hl, hle, ht⟩⟩
  rw [h.dec, List.drop_eq_nil_of_le hs]
  simp [decL]
/-- Whole groups are read. -/
def DRel (w : World) (gd M L : Nat) (f : UInt8 → Nat) (pad : Bool) (t : List UInt8) (q : Nat) (n er si : Value) (wc : World) : Prop :=
  ∃ (N S : Nat) (out : List UInt8), n = .int .i64 (N : Nat) ∧ er = .nilIface ∧ si = .int .i64 (S : Nat) ∧ 4 * q ≤ L ∧ S = 4 * q ∧ N = 3 * q ∧ out.length = N ∧ DSt w wc gd M f pad t S out
/-- Perhaps all is read. -/
def DRel3 (w : World) (gd M L : Nat) (f : UInt8 → Nat) (pad : Bool) (t : List UInt8) (k : Nat) (n er si : Value) (wc : World) : Prop :=
  ∃ (N S : Nat) (out : List UInt8), n = .int .i64 (N : Nat) ∧ er = .nilIface ∧ si = .int .i64 (S : Nat) ∧ k + S = L ∧ out.length = N ∧ N ≤ M ∧ (S = L ∨ ∃ q, S = 4 * q ∧ N = 3 * q) ∧ DSt w wc gd M f pad t S out
def CutP (M N : Nat) (gd : Nat) (p : Option Addr) : Prop := 0 < M - N → p = some ⟨gd, 0 + N, none⟩
set_option maxRecDepth 100000 in
set_option maxHeartbeats 4000000 in
theorem Decode_calls (pad : Bool) (w : World) (g gd M L cS : Nat) (ad : Addr) (t al dm : List UInt8) (cs : List Value) (f : UInt8 → Nat) (ha : al.length = 64) (hd : dm.length = 256)
    (hf : ∀ c, f c = (bt dm c.toNat).toNat) (hf2 : ∀ c, f c < 64 ∨ f c = 255) (hf61 : f 61 = 255) (hnl : ∀ c ∈ t, c ≠ 10 ∧ c ≠ 13)
    (hrb : RB w (some ad) L t) (hL : L ≤ 100000) (hL0 : 0 < L) (hcL : L ≤ cS) (hne : g ≠ gd) (hsep : ad.block ≠ gd)
    (hb : Blk w g 78 (encC al dm (pcOf pad)).toArray) (hbd : Blk w gd 5 cs.toArray) (hM : M = dLen pad L) (hcs : cs.length = M) :
    Calls Tryd.prog 60 #[.pointer (some ⟨g, 0, none⟩), .slice (some ⟨gd, 0, none⟩) M M, .slice (some ad) L cS] w (DPost w gd M f pad t) := by
  have HRB := Lib.hid hrb
  have HLEN := Lib.hid hrb.len
  have HF := Lib.hid hf
  have HF2 := Lib.hid hf2
  have HF61 := Lib.hid hf61
  have HNL := Lib.hid hnl
  have HB := Lib.hid hb
  have HSEP := Lib.hid hsep
  have HNE := Lib.hid hne
  have hL00 : ((L : Int) == 0) = false := by rw [beq_eq_false_iff_ne]; omega
  have HMR : Hid (∀ q, 4 * q ≤ L → (4 ≤ L - 4 * q → 3 ≤ M - 3 * q) ∧ (pad = false → L - 4 * q = 3 → 2 ≤ M - 3 * q) ∧ (pad = false → L - 4 * q = 2 → 1 ≤ M - 3 * q) ∧ (3 * q ≤ M) ∧ (8 ≤ M - 3 * q → 8 ≤ L - 4 * q) ∧ (4 ≤ M - 3 * q → 4 ≤ L - 4 * q → pad = true → 5 ≤ L - 4 * q) ∧ (4 ≤ M - 3 * q → 4 ≤ L - 4 * q)) := Lib.hid (fun q hq => by
    rw [hM]
    unfold dLen
    cases pad <;> simp only [Bool.false_eq_true, if_false, if_true] <;> refine ⟨?_, ?_, ?_, ?_, ?_, ?_, ?_⟩ <;> (try intro h1) <;> (try intro h2) <;> (try intro h3) <;> first | omega | (cases h1) | (cases h3))
  have hMl : M ≤ 100000 := by rw [hM]; unfold dLen; split <;> omega
  have hD0 : DSt w w gd M f pad t 0 [] := ⟨by simp, ⟨cs, hbd, hcs, by simp [bys]⟩, World.grownBy.refl _ _⟩
  have HD0 := Lib.hid hD0
  have hi87 : (Tryd.prog.info? 76).map (·.size) = some (bys dm).length := by rw [bys_length, hd]; kernel_rfl
  have hrange : w.rangeAt g 64 (bys dm) := fun j v hv => by
    have hj : j < dm.length := by have := (List.getElem?_eq_some_iff.1 hv).1; simpa [bys] using this
    rw [hb.cell, encC_map _ _ _ _ ha hd (by omega), ← hv, bys_get _ _ hj, bt_get _ _ hj]
  have HRG := Lib.hid hrange
  have HI87 := Lib.hid hi87
  obtain ⟨i0, hi, hz0, hz1, hz2⟩ := info_parts info_u8
  have HI := Lib.hid (And.intro hi hz1)
  clear hrb hf hf2 hf61 hnl hb hsep hne hM hcs hbd hD0 hi87 hrange hi hz0 hz1 hz2
  go_enter Tryd.func60, Tryd.ntmps60
  go_upto_block 0 with (refine wpList_load_mid rfl 76 _ rfl g 64 rfl (bys dm) _ HRG.out Tryd.underlying76 rfl HI87.out ?_)
  go_cut [6, 7, 8] (fun n er si wc => ∃ q, DRel w gd M L f pad t q n er si wc)
  case first =>
    go_wp2_with fail
    go_loopg [6, 7, 8] L (fun k n er si wr => ∃ q, k + q = L ∧ DRel w gd M L f pad t q n er si wr)
    case atStart => exact ⟨0, rfl, 0, 0, [], rfl, rfl, rfl, by omega, rfl, rfl, rfl, HD0.out⟩
    case round =>
      clear HD0 HRG HI87
      obtain ⟨q, hkq, N, S, out, rfl, rfl, rfl, hq4, hS, hN, hout, hD⟩ := hrel
      have HQ := Lib.hid (And.intro hS (And.intro hN (And.intro hout hkq)))
      have HD := Lib.hid hD
      have hmr := HMR.out q hq4
      rw [← hS, ← hN] at hmr
      obtain ⟨m1, m2, m3, m4, m5, m6, m7⟩ := hmr
      have hq4' : S ≤ L := by omega
      clear hS hN hout hkq hD m2 m3 m6 m7 hq4
      by_cases h8 : 8 ≤ M - N
      · have h8' := m5 h8
        clear m1 m5
        have h8a : (8 : Int) ≤ (M : Int) - (N : Int) := by omega
        have h8b : (8 : Int) ≤ (L : Int) - (S : Int) := by omega
        obtain ⟨ad2, had2⟩ : ∃ a, a = ad.add S := ⟨_, rfl⟩
        have hsl : ∀ W : World, (Instr.slice 23 (.slice (some ad) L cS) (some (.int .i64 (S : Nat))) (some (.int .i64 ((S : Int) + 8))) none).run Tryd.prog W = .ok (.slice (some ad2) 8 (cS - S)) W := fun W => by
          have hel : Tryd.prog.elem 23 = 5 := by simp [Program.elem, Tryd.underlying23]
          have hu : Tryd.prog.underlying 23 = some (.slice (Tryd.prog.elem 23)) := by rw [hel]; exact Tryd.underlying23
          rw [run_slice_lh W 23 _ L cS hu .i64 .i64 (S : Int) ((S : Int) + 8) (by omega) (by omega) (by omega), hel]
          simp [sizeOf, typeInfo, HI.out.1, HI.out.2, sliced, Result.andThen, had2]
          omega
        have hrw := RB.grown HRB.out HD.out.low (A := some ad) (by intro a ha'; obtain rfl := Option.some.inj ha'; exact HSEP.out)
        have hE : Blk wr g 78 (encC al dm (pcOf pad)).toArray := HB.out.keep HD.out.low HNE.out
        have HRW := Lib.hid hrw
        have HE := Lib.hid hE
        have HS8 := Lib.hid h8'
        have hcc : ∀ i, i < 8 → wr.cell? (ad2.add i) = some (.int .u8 (bt t (S + i)).toNat) := fun i hi => by
          obtain ⟨ad', e, hc⟩ := HRW.out.bt (k := S + i) (by omega)
          obtain rfl := Option.some.inj e
          rw [had2, add_of_add]
          exact hc
        have hmm : ∀ i, wr.cell? ⟨g, 64 + (bt t (S + i)).toNat, none⟩ = some (.int .u8 (f (bt t (S + i)) : Nat)) := fun i => by
          rw [HE.out.cell, encC_map _ _ _ _ ha hd (bt_lt _ _), HF.out]
        have c0 := hcc 0 (by decide)
        have d0 := hmm 0
        obtain ⟨nn0, hn0⟩ : ∃ n, n = (bt t (S + 0)).toNat := ⟨_, rfl⟩
        obtain ⟨x0, hx0⟩ : ∃ x, x = f (bt t (S + 0)) := ⟨_, rfl⟩
        have b0 : (nn0 : Int) < 256 := by have := bt_lt t (S + 0); omega
        have y0 : Num6 x0 := by rw [hx0]; exact HF2.out _
        rw [← hn0] at c0 d0
        rw [← hx0] at d0
        have c0' : wr.cell? ad2 = some (.int .u8 (nn0 : Nat)) := by simpa [Addr.add] using c0
        have c1 := hcc 1 (by decide)
        have d1 := hmm 1
        obtain ⟨nn1, hn1⟩ : ∃ n, n = (bt t (S + 1)).toNat := ⟨_, rfl⟩
        obtain ⟨x1, hx1⟩ : ∃ x, x = f (bt t (S + 1)) := ⟨_, rfl⟩
        have b1 : (nn1 : Int) < 256 := by have := bt_lt t (S + 1); omega
        have y1 : Num6 x1 := by rw [hx1]; exact HF2.out _
        rw [← hn1] at c1 d1
        rw [← hx1] at d1
        have c1' : wr.cell? ⟨ad2.block, ad2.off + 1, none⟩ = some (.int .u8 (nn1 : Nat)) := by simpa [Addr.add] using c1
        have c2 := hcc 2 (by decide)
        have d2 := hmm 2
        obtain ⟨nn2, hn2⟩ : ∃ n, n = (bt t (S + 2)).toNat := ⟨_, rfl⟩
        obtain ⟨x2, hx2⟩ : ∃ x, x = f (bt t (S + 2)) := ⟨_, rfl⟩
        have b2 : (nn2 : Int) < 256 := by have := bt_lt t (S + 2); omega
        have y2 : Num6 x2 := by rw [hx2]; exact HF2.out _
        rw [← hn2] at c2 d2
        rw [← hx2] at d2
        have c2' : wr.cell? ⟨ad2.block, ad2.off + 2, none⟩ = some (.int .u8 (nn2 : Nat)) := by simpa [Addr.add] using c2
        have c3 := hcc 3 (by decide)
        have d3 := hmm 3
        obtain ⟨nn3, hn3⟩ : ∃ n, n = (bt t (S + 3)).toNat := ⟨_, rfl⟩
        obtain ⟨x3, hx3⟩ : ∃ x, x = f (bt t (S + 3)) := ⟨_, rfl⟩
        have b3 : (nn3 : Int) < 256 := by have := bt_lt t (S + 3); omega
        have y3 : Num6 x3 := by rw [hx3]; exact HF2.out _
        rw [← hn3] at c3 d3
        rw [← hx3] at d3
        have c3' : wr.cell? ⟨ad2.block, ad2.off + 3, none⟩ = some (.int .u8 (nn3 : Nat)) := by simpa [Addr.add] using c3
        have c4 := hcc 4 (by decide)
        have d4 := hmm 4
        obtain ⟨nn4, hn4⟩ : ∃ n, n = (bt t (S + 4)).toNat := ⟨_, rfl⟩
        obtain ⟨x4, hx4⟩ : ∃ x, x = f (bt t (S + 4)) := ⟨_, rfl⟩
        have b4 : (nn4 : Int) < 256 := by have := bt_lt t (S + 4); omega
        have y4 : Num6 x4 := by rw [hx4]; exact HF2.out _
        rw [← hn4] at c4 d4
        rw [← hx4] at d4
        have c4' : wr.cell? ⟨ad2.block, ad2.off + 4, none⟩ = some (.int .u8 (nn4 : Nat)) := by simpa [Addr.add] using c4
        have c5 := hcc 5 (by decide)
        have d5 := hmm 5
        obtain ⟨nn5, hn5⟩ : ∃ n, n = (bt t (S + 5)).toNat := ⟨_, rfl⟩
        obtain ⟨x5, hx5⟩ : ∃ x, x = f (bt t (S + 5)) := ⟨_, rfl⟩
        have b5 : (nn5 : Int) < 256 := by have := bt_lt t (S + 5); omega
        have y5 : Num6 x5 := by rw [hx5]; exact HF2.out _
        rw [← hn5] at c5 d5
        rw [← hx5] at d5
        have c5' : wr.cell? ⟨ad2.block, ad2.off + 5, none⟩ = some (.int .u8 (nn5 : Nat)) := by simpa [Addr.add] using c5
        have c6 := hcc 6 (by decide)
        have d6 := hmm 6
        obtain ⟨nn6, hn6⟩ : ∃ n, n = (bt t (S + 6)).toNat := ⟨_, rfl⟩
        obtain ⟨x6, hx6⟩ : ∃ x, x = f (bt t (S + 6)) := ⟨_, rfl⟩
        have b6 : (nn6 : Int) < 256 := by have := bt_lt t (S + 6); omega
        have y6 : Num6 x6 := by rw [hx6]; exact HF2.out _
        rw [← hn6] at c6 d6
        rw [← hx6] at d6
        have c6' : wr.cell? ⟨ad2.block, ad2.off + 6, none⟩ = some (.int .u8 (nn6 : Nat)) := by simpa [Addr.add] using c6
        have c7 := hcc 7 (by decide)
        have d7 := hmm 7
        obtain ⟨nn7, hn7⟩ : ∃ n, n = (bt t (S + 7)).toNat := ⟨_, rfl⟩
        obtain ⟨x7, hx7⟩ : ∃ x, x = f (bt t (S + 7)) := ⟨_, rfl⟩
        have b7 : (nn7 : Int) < 256 := by have := bt_lt t (S + 7); omega
        have y7 : Num6 x7 := by rw [hx7]; exact HF2.out _
        rw [← hn7] at c7 d7
        rw [← hx7] at d7
        have c7' : wr.cell? ⟨ad2.block, ad2.off + 7, none⟩ = some (.int .u8 (nn7 : Nat)) := by simpa [Addr.add] using c7
        have HX := Lib.hid (And.intro hx0 (And.intro hx1 (And.intro hx2 (And.intro hx3 (And.intro hx4 (And.intro hx5 (And.intro hx6 hx7)))))))
        clear hcc hmm hrw hE had2 hn0 hn1 hn2 hn3 hn4 hn5 hn6 hn7 hx0 hx1 hx2 hx3 hx4 hx5 hx6 hx7 c0 c1 c2 c3 c4 c5 c6 c7
        have HNM : Hid (N + 8 ≤ M) := Lib.hid (by omega)

        obtain ⟨cur, hcb, hcl, hct⟩ := HD.out.blk
        obtain ⟨pp, hcut, hpp⟩ := cut_own HI.out.1 HI.out.2 gd 0 M M N (Nat.le_refl _) (by have := HNM.out; omega) (N : Int) rfl
        rw [Nat.zero_add] at hpp
        have HCB := Lib.hid hcb
        have HCL := Lib.hid hcl
        have HCT := Lib.hid hct
        have HPP := Lib.hid hpp
        clear hcb hcl hct hpp

        by_cases hall : x0 < 64 ∧ x1 < 64 ∧ x2 < 64 ∧ x3 < 64 ∧ x4 < 64 ∧ x5 < 64 ∧ x6 < 64 ∧ x7 < 64
        · have HALL := Lib.hid hall
          clear hall
          obtain ⟨V, hV⟩ : ∃ V, V = (n4 x0 x1 x2 x3 * 16777216 + n4 x4 x5 x6 x7) * 65536 := ⟨_, rfl⟩
          have HA : Hid (∀ W : World, Calls Tryd.prog 66 #[.int .u8 (x0 : Nat), .int .u8 (x1 : Nat), .int .u8 (x2 : Nat), .int .u8 (x3 : Nat), .int .u8 (x4 : Nat), .int .u8 (x5 : Nat), .int .u8 (x6 : Nat), .int .u8 (x7 : Nat)] W fun e w' => e = .returned (.tuple #[.int .u64 (V : Nat), .bool true]) ∧ W = w') := Lib.hid (fun W => (assemble64_calls W x0 x1 x2 x3 x4 x5 x6 x7 y0 y1 y2 y3 y4 y5 y6 y7).mono (by
            rintro e w' ⟨h1, h2⟩
            rcases h2 with ⟨_, h2⟩ | ⟨h2, _⟩
            · exact ⟨by rw [h2, hV], h1⟩
            · exact absurd HALL.out h2))
          have HV := Lib.hid hV
          clear hV
          go_wp2
          simp only [List.append_eq, List.cons_append, List.nil_append]
          go_quiet ((go_at_call 66; refine (HA.out _).mono ?_; rintro e w1 ⟨rfl, rfl⟩; exact ⟨rfl, _, rfl⟩))
          obtain rfl := HPP.out (by have := HNM.out; omega)
          have hp8 := BEPut8_calls (wr.drewN nq) gd N (M - N) (M - N) V cur (by rw [HV.out]; have h := HALL.out; unfold n4; omega) (HCB.out.drewN nq) (by have := HNM.out; omega) (by rw [HCL.out]; have := HNM.out; omega)
          have HP8 := Lib.hid hp8
          have HDR := Lib.hid (HD.out.drewN nq)
          clear hp8
          go_wp2_with fail
          refine HP8.out.mono ?_
          rintro e w1 ⟨rfl, hb1, hg1⟩
          have HB1 := Lib.hid hb1
          have HG1 := Lib.hid hg1
          clear hb1 hg1
          go_wp2

          go_roundg (L - (q + 2))
          case measure => have := HQ.out; have := HS8.out; omega
          case rel =>
            have hb := HB1.out
            rw [HV.out, be8_by3 _ _ (by have h := HALL.out; unfold n4; omega) (by have h := HALL.out; unfold n4; omega)] at hb
            exact ⟨q + 2, by have := HQ.out; have := HS8.out; omega, N + 6, S + 8, out ++ (by3 (n4 x0 x1 x2 x3) ++ by3 (n4 x4 x5 x6 x7)), by go_num, rfl, by go_num, by have := HQ.out; have := HS8.out; omega, by have := HQ.out; omega, by have := HQ.out; omega, by simp only [List.length_append, by3_len]; have := HQ.out; omega,
              HDR.out.two (by rw [← HLEN.out]; have := HS8.out; omega) HX.out HALL.out HCL.out HCT.out HQ.out.2.2.1 HNM.out [0, 0] (by decide) hb HG1.out⟩
        · have HALL := Lib.hid hall
          clear hall
          have HA : Hid (∀ W : World, Calls Tryd.prog 66 #[.int .u8 (x0 : Nat), .int .u8 (x1 : Nat), .int .u8 (x2 : Nat), .int .u8 (x3 : Nat), .int .u8 (x4 : Nat), .int .u8 (x5 : Nat), .int .u8 (x6 : Nat), .int .u8 (x7 : Nat)] W fun e w' => e = .returned (.tuple #[.int .u64 0, .bool false]) ∧ W = w') := Lib.hid (fun W => (assemble64_calls W x0 x1 x2 x3 x4 x5 x6 x7 y0 y1 y2 y3 y4 y5 y6 y7).mono (by
            rintro e w' ⟨h1, h2⟩
            rcases h2 with ⟨h2, _⟩ | ⟨_, h2⟩
            · exact absurd h2 HALL.out
            · exact ⟨h2, h1⟩))
          go_wp2
          simp only [List.append_eq, List.cons_append, List.nil_append]
          go_quiet ((go_at_call 66; refine (HA.out _).mono ?_; rintro e w1 ⟨rfl, rfl⟩; exact ⟨rfl, _, rfl⟩))
          have hqc := quantum_any pad (wr.drewN nq) g gd N S (M - N) (M - N) L cS pp ad t (t.drop S) al dm cur f ha hd HF.out HF2.out HF61.out HNL.out (HRW.out.below (K.below_drewN (Below.refl _ _) nq) (Nat.le_refl _)) rfl (by omega) hL HNE.out (HE.out.drewN nq) (HCB.out.drewN nq) HPP.out (fun _ => by have := HNM.out; omega) (fun _ _ => by have := HNM.out; omega) (fun _ _ => by have := HNM.out; omega) (by rw [HCL.out]; have := HNM.out; omega) (Nat.le_refl _)
          have HQC := Lib.hid hqc
          have HDR := Lib.hid (HD.out.drewN nq)
          clear hqc
          go_wp2_with fail
          refine HQC.out.mono ?_
          rintro e w1 ⟨hg1, hh⟩
          have HG1 := Lib.hid hg1
          clear hg1
          rcases hh with ⟨o2, m, hq, he, hb1⟩ | ⟨hqn, x, y, T, v, rfl⟩
          · obtain ⟨rfl, ho2⟩ := quantR_long (.inl (by rw [List.length_drop, ← HLEN.out]; have := HS8.out; omega)) hq
            rw [ho2] at he
            subst he
            have HQ2 := Lib.hid (And.intro hq ho2)
            have HB1 := Lib.hid hb1
            clear hq ho2 hb1
            go_wp2
            go_roundg (L - (q + 1))
            case measure => have := HQ.out; have := HS8.out; omega
            case rel =>
              exact ⟨q + 1, by have := HQ.out; have := HS8.out; omega, N + 3, S + 4, out ++ o2, by go_num, rfl, by go_num, by have := HQ.out; have := HS8.out; omega, by have := HQ.out; omega, by have := HQ.out; omega, by rw [List.length_append, HQ2.out.2]; have := HQ.out; omega,
                HDR.out.quant (by rw [← HLEN.out]; have := HS8.out; omega) HQ2.out.1 HCL.out HCT.out (by rw [HQ.out.2.2.1, HQ2.out.2]; have := HNM.out; omega) (by rw [HQ.out.2.2.1]; exact HB1.out) HG1.out⟩
          · have HQN := Lib.hid hqn
            clear hqn
            go_wp2
            go_ret2
            exact HDR.out.bad (by rw [← HLEN.out]; omega) HQN.out HG1.out _ _ _ rfl
      · clear m1 m5
        have h8a : ¬ (8 : Int) ≤ (M : Int) - (N : Int) := by omega
        by_cases h8b : (8 : Int) ≤ (L : Int) - (S : Int)
        all_goals
          go_wp2
          go_meet
          case rel => exact ⟨q, N, S, out, rfl, rfl, rfl, by have := HQ.out; omega, HQ.out.1, HQ.out.2.1, HQ.out.2.2.1, HD.out⟩
  case rest =>
    clear HD0 HRG HI87
    obtain ⟨q, N, S, out, rfl, rfl, rfl, hq4, hS, hN, hout, hD⟩ := hcut
    have HD0 := Lib.hid hD
    have HQ0 := Lib.hid (And.intro hq4 (And.intro hS (And.intro hN hout)))
    clear hD hq4 hS hN hout
    go_upto_block 2 with (fail)
    go_cut [6, 7, 8] (fun n er si wc => ∃ q, DRel w gd M L f pad t q n er si wc)
    case first =>
      go_wp2_with fail
      go_loopg [6, 7, 8] (L - q) (fun k n er si wr => ∃ q, k + q = L ∧ DRel w gd M L f pad t q n er si wr)
      case atStart => exact ⟨q, by have := HQ0.out; omega, N, S, out, rfl, rfl, rfl, HQ0.out.1, HQ0.out.2.1, HQ0.out.2.2.1, HQ0.out.2.2.2, HD0.out⟩
      case round =>
        clear HD0 HQ0
        obtain ⟨q, hkq, N, S, out, rfl, rfl, rfl, hq4, hS, hN, hout, hD⟩ := hrel
        have HQ := Lib.hid (And.intro hS (And.intro hN (And.intro hout hkq)))
        have HD := Lib.hid hD
        have hmr := HMR.out q hq4
        rw [← hS, ← hN] at hmr
        obtain ⟨m1, m2, m3, m4, m5, m6, m7⟩ := hmr
        have hq4' : S ≤ L := by omega
        clear hS hN hout hkq hD m2 m3 m5 hq4
        by_cases h8 : 4 ≤ M - N
        · have h8' := m7 h8
          have HPL : Hid (5 ≤ L - S ∨ pad = false) := Lib.hid (by cases pad; exact .inr rfl; exact .inl (m6 h8 h8' rfl))
          clear m1 m6 m7
          have h8a : (4 : Int) ≤ (M : Int) - (N : Int) := by omega
          have h8b : (4 : Int) ≤ (L : Int) - (S : Int) := by omega
          obtain ⟨ad2, had2⟩ : ∃ a, a = ad.add S := ⟨_, rfl⟩
          have hsl : ∀ W : World, (Instr.slice 23 (.slice (some ad) L cS) (some (.int .i64 (S : Nat))) (some (.int .i64 ((S : Int) + 4))) none).run Tryd.prog W = .ok (.slice (some ad2) 4 (cS - S)) W := fun W => by
            have hel : Tryd.prog.elem 23 = 5 := by simp [Program.elem, Tryd.underlying23]
            have hu : Tryd.prog.underlying 23 = some (.slice (Tryd.prog.elem 23)) := by rw [hel]; exact Tryd.underlying23
            rw [run_slice_lh W 23 _ L cS hu .i64 .i64 (S : Int) ((S : Int) + 4) (by omega) (by omega) (by omega), hel]
            simp [sizeOf, typeInfo, HI.out.1, HI.out.2, sliced, Result.andThen, had2]
            omega
          have hrw := RB.grown HRB.out HD.out.low (A := some ad) (by intro a ha'; obtain rfl := Option.some.inj ha'; exact HSEP.out)
          have hE : Blk wr g 78 (encC al dm (pcOf pad)).toArray := HB.out.keep HD.out.low HNE.out
          have HRW := Lib.hid hrw
          have HE := Lib.hid hE
          have HS8 := Lib.hid h8'
          have hcc : ∀ i, i < 4 → wr.cell? (ad2.add i) = some (.int .u8 (bt t (S + i)).toNat) := fun i hi => by
            obtain ⟨ad', e, hc⟩ := HRW.out.bt (k := S + i) (by omega)
            obtain rfl := Option.some.inj e
            rw [had2, add_of_add]
            exact hc
          have hmm : ∀ i, wr.cell? ⟨g, 64 + (bt t (S + i)).toNat, none⟩ = some (.int .u8 (f (bt t (S + i)) : Nat)) := fun i => by
            rw [HE.out.cell, encC_map _ _ _ _ ha hd (bt_lt _ _), HF.out]
          have c0 := hcc 0 (by decide)
          have d0 := hmm 0
          obtain ⟨nn0, hn0⟩ : ∃ n, n = (bt t (S + 0)).toNat := ⟨_, rfl⟩
          obtain ⟨x0, hx0⟩ : ∃ x, x = f (bt t (S + 0)) := ⟨_, rfl⟩
          have b0 : (nn0 : Int) < 256 := by have := bt_lt t (S + 0); omega
          have y0 : Num6 x0 := by rw [hx0]; exact HF2.out _
          rw [← hn0] at c0 d0
          rw [← hx0] at d0
          have c0' : wr.cell? ad2 = some (.int .u8 (nn0 : Nat)) := by simpa [Addr.add] using c0
          have c1 := hcc 1 (by decide)
          have d1 := hmm 1
          obtain ⟨nn1, hn1⟩ : ∃ n, n = (bt t (S + 1)).toNat := ⟨_, rfl⟩
          obtain ⟨x1, hx1⟩ : ∃ x, x = f (bt t (S + 1)) := ⟨_, rfl⟩
          have b1 : (nn1 : Int) < 256 := by have := bt_lt t (S + 1); omega
          have y1 : Num6 x1 := by rw [hx1]; exact HF2.out _
          rw [← hn1] at c1 d1
          rw [← hx1] at d1
          have c1' : wr.cell? ⟨ad2.block, ad2.off + 1, none⟩ = some (.int .u8 (nn1 : Nat)) := by simpa [Addr.add] using c1
          have c2 := hcc 2 (by decide)
          have d2 := hmm 2
          obtain ⟨nn2, hn2⟩ : ∃ n, n = (bt t (S + 2)).toNat := ⟨_, rfl⟩
          obtain ⟨x2, hx2⟩ : ∃ x, x = f (bt t (S + 2)) := ⟨_, rfl⟩
          have b2 : (nn2 : Int) < 256 := by have := bt_lt t (S + 2); omega
          have y2 : Num6 x2 := by rw [hx2]; exact HF2.out _
          rw [← hn2] at c2 d2
          rw [← hx2] at d2
          have c2' : wr.cell? ⟨ad2.block, ad2.off + 2, none⟩ = some (.int .u8 (nn2 : Nat)) := by simpa [Addr.add] using c2
          have c3 := hcc 3 (by decide)
          have d3 := hmm 3
          obtain ⟨nn3, hn3⟩ : ∃ n, n = (bt t (S + 3)).toNat := ⟨_, rfl⟩
          obtain ⟨x3, hx3⟩ : ∃ x, x = f (bt t (S + 3)) := ⟨_, rfl⟩
          have b3 : (nn3 : Int) < 256 := by have := bt_lt t (S + 3); omega
          have y3 : Num6 x3 := by rw [hx3]; exact HF2.out _
          rw [← hn3] at c3 d3
          rw [← hx3] at d3
          have c3' : wr.cell? ⟨ad2.block, ad2.off + 3, none⟩ = some (.int .u8 (nn3 : Nat)) := by simpa [Addr.add] using c3
          have HX := Lib.hid (And.intro hx0 (And.intro hx1 (And.intro hx2 hx3)))
          clear hcc hmm hrw hE had2 hn0 hn1 hn2 hn3 hx0 hx1 hx2 hx3 c0 c1 c2 c3
          have HNM : Hid (N + 4 ≤ M) := Lib.hid (by omega)

          obtain ⟨cur, hcb, hcl, hct⟩ := HD.out.blk
          obtain ⟨pp, hcut, hpp⟩ := cut_own HI.out.1 HI.out.2 gd 0 M M N (Nat.le_refl _) (by have := HNM.out; omega) (N : Int) rfl
          rw [Nat.zero_add] at hpp
          have HCB := Lib.hid hcb
          have HCL := Lib.hid hcl
          have HCT := Lib.hid hct
          have HPP := Lib.hid hpp
          clear hcb hcl hct hpp

          by_cases hall : x0 < 64 ∧ x1 < 64 ∧ x2 < 64 ∧ x3 < 64
          · have HALL := Lib.hid hall
            clear hall
            obtain ⟨V, hV⟩ : ∃ V, V = (n4 x0 x1 x2 x3) * 256 := ⟨_, rfl⟩
            have HA : Hid (∀ W : World, Calls Tryd.prog 69 #[.int .u8 (x0 : Nat), .int .u8 (x1 : Nat), .int .u8 (x2 : Nat), .int .u8 (x3 : Nat)] W fun e w' => e = .returned (.tuple #[.int .u32 (V : Nat), .bool true]) ∧ W = w') := Lib.hid (fun W => (assemble32_calls W x0 x1 x2 x3 y0 y1 y2 y3).mono (by
              rintro e w' ⟨h1, h2⟩
              rcases h2 with ⟨_, h2⟩ | ⟨h2, _⟩
              · exact ⟨by rw [h2, hV], h1⟩
              · exact absurd HALL.out h2))
            have HV := Lib.hid hV
            clear hV
            go_wp2
            try simp only [List.append_eq, List.cons_append, List.nil_append]
            go_quiet ((go_at_call 69; refine (HA.out _).mono ?_; rintro e w1 ⟨rfl, rfl⟩; exact ⟨rfl, _, rfl⟩))
            obtain rfl := HPP.out (by have := HNM.out; omega)
            have hp8 := BEPut4_calls (wr.drewN nq) gd N (M - N) (M - N) V cur (by rw [HV.out]; have h := HALL.out; unfold n4; omega) (HCB.out.drewN nq) (by have := HNM.out; omega) (by rw [HCL.out]; have := HNM.out; omega)
            have HP8 := Lib.hid hp8
            have HDR := Lib.hid (HD.out.drewN nq)
            clear hp8
            go_wp2_with fail
            refine HP8.out.mono ?_
            rintro e w1 ⟨rfl, hb1, hg1⟩
            have HB1 := Lib.hid hb1
            have HG1 := Lib.hid hg1
            clear hb1 hg1
            go_wp2

            go_roundg (L - (q + 1))
            case measure => have := HQ.out; have := HS8.out; omega
            case rel =>
              have hb := HB1.out
              rw [HV.out, be4_by3 _ (by have h := HALL.out; unfold n4; omega)] at hb
              exact ⟨q + 1, by have := HQ.out; have := HS8.out; omega, N + 3, S + 4, out ++ by3 (n4 x0 x1 x2 x3), by go_num, rfl, by go_num, by have := HQ.out; have := HS8.out; omega, by have := HQ.out; omega, by have := HQ.out; omega, by simp only [List.length_append, by3_len]; have := HQ.out; omega,
                HDR.out.one (by rw [← HLEN.out]; have := HS8.out; omega) HX.out HALL.out HCL.out HCT.out HQ.out.2.2.1 HNM.out [0] (by decide) hb HG1.out⟩
          · have HALL := Lib.hid hall
            clear hall
            have HA : Hid (∀ W : World, Calls Tryd.prog 69 #[.int .u8 (x0 : Nat), .int .u8 (x1 : Nat), .int .u8 (x2 : Nat), .int .u8 (x3 : Nat)] W fun e w' => e = .returned (.tuple #[.int .u32 0, .bool false]) ∧ W = w') := Lib.hid (fun W => (assemble32_calls W x0 x1 x2 x3 y0 y1 y2 y3).mono (by
              rintro e w' ⟨h1, h2⟩
              rcases h2 with ⟨h2, _⟩ | ⟨_, h2⟩
              · exact absurd h2 HALL.out
              · exact ⟨h2, h1⟩))
            go_wp2
            try simp only [List.append_eq, List.cons_append, List.nil_append]
            go_quiet ((go_at_call 69; refine (HA.out _).mono ?_; rintro e w1 ⟨rfl, rfl⟩; exact ⟨rfl, _, rfl⟩))
            have hqc := quantum_any pad (wr.drewN nq) g gd N S (M - N) (M - N) L cS pp ad t (t.drop S) al dm cur f ha hd HF.out HF2.out HF61.out HNL.out (HRW.out.below (K.below_drewN (Below.refl _ _) nq) (Nat.le_refl _)) rfl (by omega) hL HNE.out (HE.out.drewN nq) (HCB.out.drewN nq) HPP.out (fun _ => by have := HNM.out; omega) (fun _ _ => by have := HNM.out; omega) (fun _ _ => by have := HNM.out; omega) (by rw [HCL.out]; have := HNM.out; omega) (Nat.le_refl _)
            have HQC := Lib.hid hqc
            have HDR := Lib.hid (HD.out.drewN nq)
            clear hqc
            go_wp2_with fail
            refine HQC.out.mono ?_
            rintro e w1 ⟨hg1, hh⟩
            have HG1 := Lib.hid hg1
            clear hg1
            rcases hh with ⟨o2, m, hq, he, hb1⟩ | ⟨hqn, x, y, T, v, rfl⟩
            · obtain ⟨rfl, ho2⟩ := quantR_long (by rw [List.length_drop, ← HLEN.out]; have := HS8.out; rcases HPL.out with h | h; exact .inl (by omega); exact .inr ⟨by omega, h⟩) hq
              rw [ho2] at he
              subst he
              have HQ2 := Lib.hid (And.intro hq ho2)
              have HB1 := Lib.hid hb1
              clear hq ho2 hb1
              go_wp2
              go_roundg (L - (q + 1))
              case measure => have := HQ.out; have := HS8.out; omega
              case rel =>
                exact ⟨q + 1, by have := HQ.out; have := HS8.out; omega, N + 3, S + 4, out ++ o2, by go_num, rfl, by go_num, by have := HQ.out; have := HS8.out; omega, by have := HQ.out; omega, by have := HQ.out; omega, by rw [List.length_append, HQ2.out.2]; have := HQ.out; omega,
                  HDR.out.quant (by rw [← HLEN.out]; have := HS8.out; omega) HQ2.out.1 HCL.out HCT.out (by rw [HQ.out.2.2.1, HQ2.out.2]; have := HNM.out; omega) (by rw [HQ.out.2.2.1]; exact HB1.out) HG1.out⟩
            · have HQN := Lib.hid hqn
              clear hqn
              go_wp2
              go_ret2
              exact HDR.out.bad (by rw [← HLEN.out]; omega) HQN.out HG1.out _ _ _ rfl
        · clear m1 m6 m7
          have h8a : ¬ (4 : Int) ≤ (M : Int) - (N : Int) := by omega
          by_cases h8b : (4 : Int) ≤ (L : Int) - (S : Int)
          all_goals
            go_wp2
            go_meet
            case rel => exact ⟨q, N, S, out, rfl, rfl, rfl, by have := HQ.out; omega, HQ.out.1, HQ.out.2.1, HQ.out.2.2.1, HD.out⟩
    case rest =>
      clear HD0 HQ0
      obtain ⟨q, N, S, out, rfl, rfl, rfl, hq4, hS, hN, hout, hD⟩ := hcut
      have hmr := HMR.out q hq4
      have HD0 := Lib.hid hD
      have HQ0 := Lib.hid (And.intro hq4 (And.intro hS (And.intro hN (And.intro hout hmr.2.2.2.1))))
      clear hD hq4 hS hN hout hmr
      go_wp2_with fail
      go_loopg [6, 7, 8] (L - S) (fun k n er si wr => DRel3 w gd M L f pad t k n er si wr)
      case atStart => exact ⟨N, S, out, rfl, rfl, rfl, by have := HQ0.out; omega, HQ0.out.2.2.2.1, by have := HQ0.out; omega, .inr ⟨q, HQ0.out.2.1, HQ0.out.2.2.1⟩, HD0.out⟩
      case round =>
        clear HD0 HQ0
        obtain ⟨N, S, out, rfl, rfl, rfl, hkS, hout, hNM, hor, hD⟩ := hrel
        have HD := Lib.hid hD
        have HQ := Lib.hid (And.intro hkS (And.intro hout hor))
        have HNM := Lib.hid hNM
        clear hD hkS hout hor hNM
        by_cases hlt : S < L
        · have hlti : (S : Int) < (L : Int) := by omega
          obtain ⟨cur, hcb, hcl, hct⟩ := HD.out.blk
          obtain ⟨pp, hcut, hpp⟩ := cut_own HI.out.1 HI.out.2 gd 0 M M N (Nat.le_refl _) (by have := HNM.out; omega) (N : Int) rfl
          rw [Nat.zero_add] at hpp
          have HCB := Lib.hid hcb
          have HCL := Lib.hid hcl
          have HCT := Lib.hid hct
          have HPP := Lib.hid hpp
          clear hcb hcl hct hpp

          obtain ⟨q, hSq, hNq⟩ : ∃ q, S = 4 * q ∧ N = 3 * q := by
            rcases HQ.out.2.2 with h | h
            · omega
            · exact h
          have hmr := HMR.out q (by omega)
          rw [← hSq, ← hNq] at hmr
          have hrl : (t.drop S).length = L - S := by rw [List.length_drop, ← HLEN.out]
          have hrw := RB.grown HRB.out HD.out.low (A := some ad) (by intro a ha'; obtain rfl := Option.some.inj ha'; exact HSEP.out)
          have hE : Blk wr g 78 (encC al dm (pcOf pad)).toArray := HB.out.keep HD.out.low HNE.out
          have hqc := quantum_any pad wr g gd N S (M - N) (M - N) L cS pp ad t (t.drop S) al dm cur f ha hd HF.out HF2.out HF61.out HNL.out hrw rfl hlt hL HNE.out hE HCB.out HPP.out (by rw [hrl]; exact hmr.1) (by rw [hrl]; exact hmr.2.1) (by rw [hrl]; exact hmr.2.2.1) (by rw [HCL.out]; have := HNM.out; omega) (Nat.le_refl _)
          have HQC := Lib.hid hqc
          have HMM := Lib.hid hmr
          have HRL := Lib.hid hrl
          clear hqc hmr hrw hE hSq hNq hrl
          go_wp2_with fail
          refine HQC.out.mono ?_
          rintro e w1 ⟨hg1, hh⟩
          have HG1 := Lib.hid hg1
          clear hg1
          rcases hh with ⟨o2, m, hq, rfl, hb1⟩ | ⟨hqn, x, y, T, v, rfl⟩
          · have hle : N + o2.length ≤ M ∧ S + m ≤ L ∧ 0 < m ∧ (S + m = L ∨ ∃ q', S + m = 4 * q' ∧ N + o2.length = 3 * q') := by
              have hm := HMM.out
              have hr := HRL.out
              have hn := HNM.out
              rcases quantR_le hq with ⟨rfl, h3⟩ | ⟨rfl, h3⟩
              · have h4 : 4 ≤ L - S := by
                  rw [quantR] at hq
                  split at hq
                  · rename_i hc; rw [← hr]; exact hc.1
                  · cases ht : tailD f pad (t.drop S) with
                    | none => rw [ht] at hq; cases hq
                    | some z =>
                      rw [ht] at hq
                      injection hq with hq
                      injection hq with _ hq
                      omega
                have := hm.1 h4
                refine ⟨by omega, by omega, by omega, ?_⟩
                rcases HQ.out.2.2 with h | ⟨q, h1, h2⟩
                · omega
                · exact .inr ⟨q + 1, by omega, by omega⟩
              · rcases tailD_len h3 with ⟨hp, h5, h6⟩ | ⟨hp, h5, h6⟩ | ⟨hp, h5, h6⟩
                · have := hm.2.2.1 hp (by omega)
                  exact ⟨by omega, by omega, by omega, .inl (by omega)⟩
                · have := hm.2.1 hp (by omega)
                  exact ⟨by omega, by omega, by omega, .inl (by omega)⟩
                · have := hm.1 (by omega)
                  exact ⟨by omega, by omega, by omega, .inl (by omega)⟩
            have HLE := Lib.hid hle
            have HQ2 := Lib.hid hq
            have HB1 := Lib.hid hb1
            have ho2 : o2.length ≤ 100000 := by have := hle.1; omega
            have hN1 : N ≤ 100000 := by have := hle.1; omega
            clear hle hq hb1
            go_wp2
            go_roundg (L - (S + m))
            case measure => have := HQ.out; have := HLE.out; omega
            case rel =>
              exact ⟨N + o2.length, S + m, out ++ o2, by go_num, rfl, rfl, by have := HLE.out; omega, by rw [List.length_append, HQ.out.2.1], HLE.out.1, HLE.out.2.2.2,
                HD.out.quant (by rw [← HLEN.out]; exact hlt) HQ2.out HCL.out HCT.out (by rw [HQ.out.2.1]; exact HLE.out.1) (by rw [HQ.out.2.1]; exact HB1.out) HG1.out⟩
          · have HQN := Lib.hid hqn
            clear hqn
            go_wp2
            go_ret2
            exact HD.out.bad (by rw [← HLEN.out]; exact hlt) HQN.out HG1.out _ _ _ rfl
        · go_wp2
          go_ret2
          exact HD.out.good (by rw [← HLEN.out]; omega) (by rw [HQ.out.2.1]; exact HNM.out) (by rw [HQ.out.2.1]; rfl)
end Go.Proofs.YteecamdcfkielaaDoor.B64
