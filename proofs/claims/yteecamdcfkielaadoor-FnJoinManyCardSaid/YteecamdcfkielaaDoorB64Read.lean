/- Walks of the decoder's callers: defaultDecoder.Decode, Decode, impl.Decoded; the conditions are on sizes, and no ends of lines. -/
import Derived.Test.YteecamdcfkielaaDoorB64Guess
set_option linter.unusedVariables false
set_option linter.unusedSimpArgs false
namespace Go.Proofs.YteecamdcfkielaaDoor.B64
open Go.RowKit Go.Proofs.YteecamdcfkielaaDoor.K Go.Proofs.YteecamdcfkielaaDoor.Own
theorem num_std : ∀ n, n < 256 → (bt (dmap alStd 64) n).toNat < 64 ∨ (bt (dmap alStd 64) n).toNat = 255 := by decide +kernel
theorem num_url : ∀ n, n < 256 → (bt (dmap alURL 64) n).toNat < 64 ∨ (bt (dmap alURL 64) n).toNat = 255 := by decide +kernel
/-- An encoding is found. -/
def EncGot (al : List UInt8) (pc : Int) (w : World) (e : Ending) (w' : World) : Prop := ∃ g, e = .returned (.pointer (some ⟨g, 0, none⟩)) ∧ w.heap.size ≤ g ∧ Blk w' g 78 (encC al (dmap al 64) pc).toArray ∧ Below w.heap.size w w'
theorem zzRawURL_got (w : World) : Calls Tryd.prog 28 #[] w (EncGot alURL (pcOf false) w) := (zzRawURL_calls w).mono fun e w' ⟨g, h⟩ => ⟨g, h⟩
theorem zzRawStd_got (w : World) : Calls Tryd.prog 74 #[] w (EncGot alStd (pcOf false) w) := (zzRawStd_calls w).mono fun e w' ⟨g, h⟩ => ⟨g, h⟩
theorem zzURL_got (w : World) : Calls Tryd.prog 73 #[] w (EncGot alURL (pcOf true) w) := (zzURL_calls w).mono fun e w' ⟨h1, h2, h3⟩ => ⟨_, h1, Nat.le_refl _, h2, h3⟩
theorem zzStdPadded_got (w : World) : Calls Tryd.prog 75 #[] w (EncGot alStd (pcOf true) w) := (zzStdPadded_calls w).mono fun e w' ⟨h1, h2, h3⟩ => ⟨_, h1, Nat.le_refl _, h2, h3⟩
/-- What a decoder gives. -/
def DDPost (w : World) (t : List UInt8) (e : Ending) (w' : World) : Prop :=
  Below w.heap.size w w' ∧ ((∃ (v : Value) (out : List UInt8), partDec t = some out ∧ e = .returned (.tuple #[v, .nilIface]) ∧ OwnB w.heap.size w' v out) ∨ (partDec t = none ∧ ∃ (v : Value) (T : TypeId) (u : Value), e = .returned (.tuple #[v, .iface T u])))
set_option maxRecDepth 100000 in
theorem Decode0_calls (w : World) (g n c : Nat) (p A : Option Addr) (cs : Array Value) (hb : Blk w g 78 cs) :
    Calls Tryd.prog 60 #[.pointer (some ⟨g, 0, none⟩), .slice p 0 n, .slice A 0 c] w fun e w' => e = .returned (.tuple #[.int .i64 0, .nilIface]) ∧ w = w' := by
  go_enter Tryd.func60, Tryd.ntmps60
  go_wp2
  go_ret2
  exact ⟨rfl, rfl⟩
/-- Decode, an empty text too. -/
theorem Decode_any (pad : Bool) (w : World) (g gd M L cS : Nat) (A : Option Addr) (t al : List UInt8) (cs : List Value) (ha : al.length = 64) (hal : Alph al (fL al)) (hnum : ∀ n, n < 256 → (bt (dmap al 64) n).toNat < 64 ∨ (bt (dmap al 64) n).toNat = 255)
    (hnl : ∀ c ∈ t, c ≠ 10 ∧ c ≠ 13) (hrb : RB w A L t) (hL : L ≤ 100000) (hcL : L ≤ cS) (hne : g ≠ gd) (hsep : 0 < L → Sep A gd)
    (hb : Blk w g 78 (encC al (dmap al 64) (pcOf pad)).toArray) (hbd : Blk w gd 5 cs.toArray) (hM : M = dLen pad L) (hcs : cs.length = M) :
    Calls Tryd.prog 60 #[.pointer (some ⟨g, 0, none⟩), .slice (some ⟨gd, 0, none⟩) M M, .slice A L cS] w (DPost w gd M (fL al) pad t) := by
  by_cases h0 : L = 0
  · subst h0
    obtain rfl : t = [] := List.eq_nil_of_length_eq_zero hrb.len.symm
    obtain rfl : M = 0 := by rw [hM]; cases pad <;> rfl
    refine (Decode0_calls w g 0 cS _ A _ hb).mono ?_
    rintro e w' ⟨rfl, rfl⟩
    exact ⟨World.grownBy.refl _ _, .inl ⟨[], cs, rfl, rfl, hbd, hcs, Nat.le_refl _, by simp [bys]⟩⟩
  · obtain ⟨ad, rfl, _⟩ := hrb.2 (by omega)
    exact Decode_calls pad w g gd M L cS ad t al (dmap al 64) cs (fL al) ha (dmap_len _ _) (fun c => rfl) (fun c => hnum _ c.toNat_lt) hal.eq_ hnl hrb hL (by omega) hcL hne (hsep (by omega) ad rfl) hb hbd hM hcs
set_option maxRecDepth 100000 in
set_option maxHeartbeats 2000000 in
theorem dd_rawurl (w : World) (A : Option Addr) (n c : Nat) (t : List UInt8) (h : RB w A n t) (hc : n ≤ c) (hn : n ≤ 100000) (hnl : ∀ c ∈ t, c ≠ 10 ∧ c ≠ 13) (hp : isPad t = false) (hs : isStd t = false) :
    Calls Tryd.prog 71 #[.agg #[], .slice A n c] w (DDPost w t) := by
  have hB0 := below_alloc' (Below.refl w.heap.size w) (.cells #[] 71)
  have hG := Guess_calls (w.alloc (.cells #[] 71)) A t n c (h.below hB0 (Nat.le_refl _)) hc (by omega)
  have hgn : guessN t = 4 := by rw [guessN, hp, hs]; rfl
  rw [hgn] at hG
  have hpd : ∀ x, decL (fL alURL) false t = x → partDec t = x := fun x hx => by rw [partDec, alOf, hp, hs]; exact hx
  have HG := Lib.hid hG
  have HB0 := Lib.hid hB0
  have HRB := Lib.hid h
  have HNL := Lib.hid hnl
  have HPD := Lib.hid hpd
  obtain ⟨M, hM⟩ : ∃ M, M = dLen false n := ⟨_, rfl⟩
  have hMl : M ≤ 100000 := by rw [hM]; unfold dLen; split <;> omega
  have HM := Lib.hid hM
  obtain ⟨i0, hi, hz0, hz1, hz2⟩ := info_parts info_u8
  have HI := Lib.hid (And.intro hi (And.intro hz0 (And.intro hz1 hz2)))
  clear hG hB0 h hnl hp hs hgn hpd hM hi hz0 hz1 hz2
  go_enter Tryd.func71, Tryd.ntmps71
  go_wp2_with fail
  refine HG.out.mono ?_
  rintro e w1 ⟨rfl, hB1⟩
  have HB1 := Lib.hid (below_then HB0.out hB1)
  clear hB1
  go_wp2_with fail
  refine (zzRawURL_got w1).mono ?_
  rintro e w2 ⟨g, rfl, hg, hb, hB2⟩
  have HE := Lib.hid hb
  have HB2 := Lib.hid (below_then HB1.out hB2)
  have HG2 := Lib.hid (Nat.le_trans HB1.out.size hg)
  clear hb hB2 hg
  have hdl := DecodedLen_calls false w2 g n alURL (dmap alURL 64) (by rfl) (dmap_len _ _) HE.out (by omega)
  rw [← HM.out] at hdl
  have HDL := Lib.hid hdl
  clear hdl
  go_wp2_with fail
  refine HDL.out.mono ?_
  rintro e w2' ⟨rfl, rfl⟩
  go_wp2_with (first
    | (at_make; refine wpList_make_blk rfl _ _ 23 rfl 5 i0 (.int .u8 0) Tryd.underlying23 HI.out.1 HI.out.2.1 HI.out.2.2.1 rfl .i64 .i64 _ _ M rfl rfl rfl rfl (by rw [HI.out.2.2.2]; omega) (by unfold maxLen; omega) ?_; intro w3 hb3 hB3 hs3; have HB3 := Lib.hid hb3; have HBB3 := Lib.hid hB3; clear hb3 hB3 hs3))
  have hdc := Decode_any false w3 g w2.heap.size M n c A t alURL (List.replicate M (.int .u8 0)) (by rfl) alURL_ok num_url HNL.out ((RB.below HRB.out HB2.out (Nat.le_refl _)).below HBB3.out (Nat.le_refl _)) hn hc (by have := HE.out.lt; omega) (by
        intro hn0 ad had e
        obtain ⟨ad', h5, h6, _⟩ := HRB.out.2 hn0
        rw [had] at h5
        obtain rfl := Option.some.inj h5
        have := HB2.out.size
        omega) (HE.out.below HBB3.out HE.out.lt) (by simpa using HB3.out) HM.out (by simp)
  have HDC := Lib.hid hdc
  clear hdc
  refine HDC.out.mono ?_
  rintro e w4 ⟨hg4, hh⟩
  have HG4 := Lib.hid hg4
  clear hg4
  have hB4 : Below w.heap.size w w4 := HB2.out.trans ((below_of_grown (grown_trans (grown_of_below HBB3.out (Nat.le_refl _) _) HG4.out) (Nat.le_refl _) (Nat.le_refl _)).mono HB2.out.size)
  have HB4 := Lib.hid hB4
  clear hB4
  rcases hh with ⟨out, cur, hdec, rfl, hb4, hcl, hle, htk⟩ | ⟨hdec, x, T, v, rfl⟩
  · have hcut : ∀ W : World, (Instr.slice 23 (.slice (some ⟨w2.heap.size, 0, none⟩) M M) none (some (.int .i64 (out.length : Nat))) none).run Tryd.prog W = .ok (.slice (some ⟨w2.heap.size, 0, none⟩) out.length M) W := by
      have hel : Tryd.prog.elem 23 = 5 := by simp [Program.elem, Tryd.underlying23]
      have hu : Tryd.prog.underlying 23 = some (.slice (Tryd.prog.elem 23)) := by rw [hel]; exact Tryd.underlying23
      intro W
      rw [run_slice_h W 23 _ M M hu .i64 (out.length : Int) (by omega) (by omega), hel]
      simp [sizeOf, typeInfo, HI.out.1, HI.out.2.2.1, sliced, Result.andThen]
      exact fun _ => add_at _ _ 0
    have HO := Lib.hid (And.intro hdec (And.intro hb4 (And.intro hcl (And.intro hle htk))))
    clear hdec hb4 hcl htk
    go_wp2
    go_ret2
    refine ⟨HB4.out, .inl ⟨_, out, HPD.out _ HO.out.1, rfl, OwnB.mk' rfl hle ⟨by rw [bys_length]; omega, .inr ⟨w2.heap.size, M, _, rfl, HB2.out.size, HO.out.2.1, hle, by unfold maxLen; omega, by rw [List.size_toArray, HO.out.2.2.1, Nat.mul_one], by rw [Nat.mul_one]; exact HO.out.2.2.2.2⟩⟩⟩⟩
  · have HO := Lib.hid hdec
    clear hdec
    go_wp2_with fail
    refine (errorsNew_calls w4 _).mono ?_
    rintro e w5 ⟨⟨T2, v2, rfl⟩, hB5⟩
    have HB5 := Lib.hid hB5
    clear hB5
    go_wp2
    go_ret2
    exact ⟨below_then HB4.out HB5.out, .inr ⟨HPD.out _ HO.out, _, _, _, rfl⟩⟩
set_option maxRecDepth 100000 in
set_option maxHeartbeats 2000000 in
theorem dd_url (w : World) (A : Option Addr) (n c : Nat) (t : List UInt8) (h : RB w A n t) (hc : n ≤ c) (hn : n ≤ 100000) (hnl : ∀ c ∈ t, c ≠ 10 ∧ c ≠ 13) (hp : isPad t = true) (hs : isStd t = false) :
    Calls Tryd.prog 71 #[.agg #[], .slice A n c] w (DDPost w t) := by
  have hB0 := below_alloc' (Below.refl w.heap.size w) (.cells #[] 71)
  have hG := Guess_calls (w.alloc (.cells #[] 71)) A t n c (h.below hB0 (Nat.le_refl _)) hc (by omega)
  have hgn : guessN t = 2 := by rw [guessN, hp, hs]; rfl
  rw [hgn] at hG
  have hpd : ∀ x, decL (fL alURL) true t = x → partDec t = x := fun x hx => by rw [partDec, alOf, hp, hs]; exact hx
  have HG := Lib.hid hG
  have HB0 := Lib.hid hB0
  have HRB := Lib.hid h
  have HNL := Lib.hid hnl
  have HPD := Lib.hid hpd
  obtain ⟨M, hM⟩ : ∃ M, M = dLen true n := ⟨_, rfl⟩
  have hMl : M ≤ 100000 := by rw [hM]; unfold dLen; split <;> omega
  have HM := Lib.hid hM
  obtain ⟨i0, hi, hz0, hz1, hz2⟩ := info_parts info_u8
  have HI := Lib.hid (And.intro hi (And.intro hz0 (And.intro hz1 hz2)))
  clear hG hB0 h hnl hp hs hgn hpd hM hi hz0 hz1 hz2
  go_enter Tryd.func71, Tryd.ntmps71
  go_wp2_with fail
  refine HG.out.mono ?_
  rintro e w1 ⟨rfl, hB1⟩
  have HB1 := Lib.hid (below_then HB0.out hB1)
  clear hB1
  go_wp2_with fail
  refine (zzURL_got w1).mono ?_
  rintro e w2 ⟨g, rfl, hg, hb, hB2⟩
  have HE := Lib.hid hb
  have HB2 := Lib.hid (below_then HB1.out hB2)
  have HG2 := Lib.hid (Nat.le_trans HB1.out.size hg)
  clear hb hB2 hg
  have hdl := DecodedLen_calls true w2 g n alURL (dmap alURL 64) (by rfl) (dmap_len _ _) HE.out (by omega)
  rw [← HM.out] at hdl
  have HDL := Lib.hid hdl
  clear hdl
  go_wp2_with fail
  refine HDL.out.mono ?_
  rintro e w2' ⟨rfl, rfl⟩
  go_wp2_with (first
    | (at_make; refine wpList_make_blk rfl _ _ 23 rfl 5 i0 (.int .u8 0) Tryd.underlying23 HI.out.1 HI.out.2.1 HI.out.2.2.1 rfl .i64 .i64 _ _ M rfl rfl rfl rfl (by rw [HI.out.2.2.2]; omega) (by unfold maxLen; omega) ?_; intro w3 hb3 hB3 hs3; have HB3 := Lib.hid hb3; have HBB3 := Lib.hid hB3; clear hb3 hB3 hs3))
  have hdc := Decode_any true w3 g w2.heap.size M n c A t alURL (List.replicate M (.int .u8 0)) (by rfl) alURL_ok num_url HNL.out ((RB.below HRB.out HB2.out (Nat.le_refl _)).below HBB3.out (Nat.le_refl _)) hn hc (by have := HE.out.lt; omega) (by
        intro hn0 ad had e
        obtain ⟨ad', h5, h6, _⟩ := HRB.out.2 hn0
        rw [had] at h5
        obtain rfl := Option.some.inj h5
        have := HB2.out.size
        omega) (HE.out.below HBB3.out HE.out.lt) (by simpa using HB3.out) HM.out (by simp)
  have HDC := Lib.hid hdc
  clear hdc
  refine HDC.out.mono ?_
  rintro e w4 ⟨hg4, hh⟩
  have HG4 := Lib.hid hg4
  clear hg4
  have hB4 : Below w.heap.size w w4 := HB2.out.trans ((below_of_grown (grown_trans (grown_of_below HBB3.out (Nat.le_refl _) _) HG4.out) (Nat.le_refl _) (Nat.le_refl _)).mono HB2.out.size)
  have HB4 := Lib.hid hB4
  clear hB4
  rcases hh with ⟨out, cur, hdec, rfl, hb4, hcl, hle, htk⟩ | ⟨hdec, x, T, v, rfl⟩
  · have hcut : ∀ W : World, (Instr.slice 23 (.slice (some ⟨w2.heap.size, 0, none⟩) M M) none (some (.int .i64 (out.length : Nat))) none).run Tryd.prog W = .ok (.slice (some ⟨w2.heap.size, 0, none⟩) out.length M) W := by
      have hel : Tryd.prog.elem 23 = 5 := by simp [Program.elem, Tryd.underlying23]
      have hu : Tryd.prog.underlying 23 = some (.slice (Tryd.prog.elem 23)) := by rw [hel]; exact Tryd.underlying23
      intro W
      rw [run_slice_h W 23 _ M M hu .i64 (out.length : Int) (by omega) (by omega), hel]
      simp [sizeOf, typeInfo, HI.out.1, HI.out.2.2.1, sliced, Result.andThen]
      exact fun _ => add_at _ _ 0
    have HO := Lib.hid (And.intro hdec (And.intro hb4 (And.intro hcl (And.intro hle htk))))
    clear hdec hb4 hcl htk
    go_wp2
    go_ret2
    refine ⟨HB4.out, .inl ⟨_, out, HPD.out _ HO.out.1, rfl, OwnB.mk' rfl hle ⟨by rw [bys_length]; omega, .inr ⟨w2.heap.size, M, _, rfl, HB2.out.size, HO.out.2.1, hle, by unfold maxLen; omega, by rw [List.size_toArray, HO.out.2.2.1, Nat.mul_one], by rw [Nat.mul_one]; exact HO.out.2.2.2.2⟩⟩⟩⟩
  · have HO := Lib.hid hdec
    clear hdec
    go_wp2_with fail
    refine (errorsNew_calls w4 _).mono ?_
    rintro e w5 ⟨⟨T2, v2, rfl⟩, hB5⟩
    have HB5 := Lib.hid hB5
    clear hB5
    go_wp2
    go_ret2
    exact ⟨below_then HB4.out HB5.out, .inr ⟨HPD.out _ HO.out, _, _, _, rfl⟩⟩
set_option maxRecDepth 100000 in
set_option maxHeartbeats 2000000 in
theorem dd_rawstd (w : World) (A : Option Addr) (n c : Nat) (t : List UInt8) (h : RB w A n t) (hc : n ≤ c) (hn : n ≤ 100000) (hnl : ∀ c ∈ t, c ≠ 10 ∧ c ≠ 13) (hp : isPad t = false) (hs : isStd t = true) :
    Calls Tryd.prog 71 #[.agg #[], .slice A n c] w (DDPost w t) := by
  have hB0 := below_alloc' (Below.refl w.heap.size w) (.cells #[] 71)
  have hG := Guess_calls (w.alloc (.cells #[] 71)) A t n c (h.below hB0 (Nat.le_refl _)) hc (by omega)
  have hgn : guessN t = 3 := by rw [guessN, hp, hs]; rfl
  rw [hgn] at hG
  have hpd : ∀ x, decL (fL alStd) false t = x → partDec t = x := fun x hx => by rw [partDec, alOf, hp, hs]; exact hx
  have HG := Lib.hid hG
  have HB0 := Lib.hid hB0
  have HRB := Lib.hid h
  have HNL := Lib.hid hnl
  have HPD := Lib.hid hpd
  obtain ⟨M, hM⟩ : ∃ M, M = dLen false n := ⟨_, rfl⟩
  have hMl : M ≤ 100000 := by rw [hM]; unfold dLen; split <;> omega
  have HM := Lib.hid hM
  obtain ⟨i0, hi, hz0, hz1, hz2⟩ := info_parts info_u8
  have HI := Lib.hid (And.intro hi (And.intro hz0 (And.intro hz1 hz2)))
  clear hG hB0 h hnl hp hs hgn hpd hM hi hz0 hz1 hz2
  go_enter Tryd.func71, Tryd.ntmps71
  go_wp2_with fail
  refine HG.out.mono ?_
  rintro e w1 ⟨rfl, hB1⟩
  have HB1 := Lib.hid (below_then HB0.out hB1)
  clear hB1
  go_wp2_with fail
  refine (zzRawStd_got w1).mono ?_
  rintro e w2 ⟨g, rfl, hg, hb, hB2⟩
  have HE := Lib.hid hb
  have HB2 := Lib.hid (below_then HB1.out hB2)
  have HG2 := Lib.hid (Nat.le_trans HB1.out.size hg)
  clear hb hB2 hg
  have hdl := DecodedLen_calls false w2 g n alStd (dmap alStd 64) (by rfl) (dmap_len _ _) HE.out (by omega)
  rw [← HM.out] at hdl
  have HDL := Lib.hid hdl
  clear hdl
  go_wp2_with fail
  refine HDL.out.mono ?_
  rintro e w2' ⟨rfl, rfl⟩
  go_wp2_with (first
    | (at_make; refine wpList_make_blk rfl _ _ 23 rfl 5 i0 (.int .u8 0) Tryd.underlying23 HI.out.1 HI.out.2.1 HI.out.2.2.1 rfl .i64 .i64 _ _ M rfl rfl rfl rfl (by rw [HI.out.2.2.2]; omega) (by unfold maxLen; omega) ?_; intro w3 hb3 hB3 hs3; have HB3 := Lib.hid hb3; have HBB3 := Lib.hid hB3; clear hb3 hB3 hs3))
  have hdc := Decode_any false w3 g w2.heap.size M n c A t alStd (List.replicate M (.int .u8 0)) (by rfl) alStd_ok num_std HNL.out ((RB.below HRB.out HB2.out (Nat.le_refl _)).below HBB3.out (Nat.le_refl _)) hn hc (by have := HE.out.lt; omega) (by
        intro hn0 ad had e
        obtain ⟨ad', h5, h6, _⟩ := HRB.out.2 hn0
        rw [had] at h5
        obtain rfl := Option.some.inj h5
        have := HB2.out.size
        omega) (HE.out.below HBB3.out HE.out.lt) (by simpa using HB3.out) HM.out (by simp)
  have HDC := Lib.hid hdc
  clear hdc
  refine HDC.out.mono ?_
  rintro e w4 ⟨hg4, hh⟩
  have HG4 := Lib.hid hg4
  clear hg4
  have hB4 : Below w.heap.size w w4 := HB2.out.trans ((below_of_grown (grown_trans (grown_of_below HBB3.out (Nat.le_refl _) _) HG4.out) (Nat.le_refl _) (Nat.le_refl _)).mono HB2.out.size)
  have HB4 := Lib.hid hB4
  clear hB4
  rcases hh with ⟨out, cur, hdec, rfl, hb4, hcl, hle, htk⟩ | ⟨hdec, x, T, v, rfl⟩
  · have hcut : ∀ W : World, (Instr.slice 23 (.slice (some ⟨w2.heap.size, 0, none⟩) M M) none (some (.int .i64 (out.length : Nat))) none).run Tryd.prog W = .ok (.slice (some ⟨w2.heap.size, 0, none⟩) out.length M) W := by
      have hel : Tryd.prog.elem 23 = 5 := by simp [Program.elem, Tryd.underlying23]
      have hu : Tryd.prog.underlying 23 = some (.slice (Tryd.prog.elem 23)) := by rw [hel]; exact Tryd.underlying23
      intro W
      rw [run_slice_h W 23 _ M M hu .i64 (out.length : Int) (by omega) (by omega), hel]
      simp [sizeOf, typeInfo, HI.out.1, HI.out.2.2.1, sliced, Result.andThen]
      exact fun _ => add_at _ _ 0
    have HO := Lib.hid (And.intro hdec (And.intro hb4 (And.intro hcl (And.intro hle htk))))
    clear hdec hb4 hcl htk
    go_wp2
    go_ret2
    refine ⟨HB4.out, .inl ⟨_, out, HPD.out _ HO.out.1, rfl, OwnB.mk' rfl hle ⟨by rw [bys_length]; omega, .inr ⟨w2.heap.size, M, _, rfl, HB2.out.size, HO.out.2.1, hle, by unfold maxLen; omega, by rw [List.size_toArray, HO.out.2.2.1, Nat.mul_one], by rw [Nat.mul_one]; exact HO.out.2.2.2.2⟩⟩⟩⟩
  · have HO := Lib.hid hdec
    clear hdec
    go_wp2_with fail
    refine (errorsNew_calls w4 _).mono ?_
    rintro e w5 ⟨⟨T2, v2, rfl⟩, hB5⟩
    have HB5 := Lib.hid hB5
    clear hB5
    go_wp2
    go_ret2
    exact ⟨below_then HB4.out HB5.out, .inr ⟨HPD.out _ HO.out, _, _, _, rfl⟩⟩
set_option maxRecDepth 100000 in
set_option maxHeartbeats 2000000 in
theorem dd_std (w : World) (A : Option Addr) (n c : Nat) (t : List UInt8) (h : RB w A n t) (hc : n ≤ c) (hn : n ≤ 100000) (hnl : ∀ c ∈ t, c ≠ 10 ∧ c ≠ 13) (hp : isPad t = true) (hs : isStd t = true) :
    Calls Tryd.prog 71 #[.agg #[], .slice A n c] w (DDPost w t) := by
  have hB0 := below_alloc' (Below.refl w.heap.size w) (.cells #[] 71)
  have hG := Guess_calls (w.alloc (.cells #[] 71)) A t n c (h.below hB0 (Nat.le_refl _)) hc (by omega)
  have hgn : guessN t = 1 := by rw [guessN, hp, hs]; rfl
  rw [hgn] at hG
  have hpd : ∀ x, decL (fL alStd) true t = x → partDec t = x := fun x hx => by rw [partDec, alOf, hp, hs]; exact hx
  have HG := Lib.hid hG
  have HB0 := Lib.hid hB0
  have HRB := Lib.hid h
  have HNL := Lib.hid hnl
  have HPD := Lib.hid hpd
  obtain ⟨M, hM⟩ : ∃ M, M = dLen true n := ⟨_, rfl⟩
  have hMl : M ≤ 100000 := by rw [hM]; unfold dLen; split <;> omega
  have HM := Lib.hid hM
  obtain ⟨i0, hi, hz0, hz1, hz2⟩ := info_parts info_u8
  have HI := Lib.hid (And.intro hi (And.intro hz0 (And.intro hz1 hz2)))
  clear hG hB0 h hnl hp hs hgn hpd hM hi hz0 hz1 hz2
  go_enter Tryd.func71, Tryd.ntmps71
  go_wp2_with fail
  refine HG.out.mono ?_
  rintro e w1 ⟨rfl, hB1⟩
  have HB1 := Lib.hid (below_then HB0.out hB1)
  clear hB1
  go_wp2_with fail
  refine (zzStdPadded_got w1).mono ?_
  rintro e w2 ⟨g, rfl, hg, hb, hB2⟩
  have HE := Lib.hid hb
  have HB2 := Lib.hid (below_then HB1.out hB2)
  have HG2 := Lib.hid (Nat.le_trans HB1.out.size hg)
  clear hb hB2 hg
  have hdl := DecodedLen_calls true w2 g n alStd (dmap alStd 64) (by rfl) (dmap_len _ _) HE.out (by omega)
  rw [← HM.out] at hdl
  have HDL := Lib.hid hdl
  clear hdl
  go_wp2_with fail
  refine HDL.out.mono ?_
  rintro e w2' ⟨rfl, rfl⟩
  go_wp2_with (first
    | (at_make; refine wpList_make_blk rfl _ _ 23 rfl 5 i0 (.int .u8 0) Tryd.underlying23 HI.out.1 HI.out.2.1 HI.out.2.2.1 rfl .i64 .i64 _ _ M rfl rfl rfl rfl (by rw [HI.out.2.2.2]; omega) (by unfold maxLen; omega) ?_; intro w3 hb3 hB3 hs3; have HB3 := Lib.hid hb3; have HBB3 := Lib.hid hB3; clear hb3 hB3 hs3))
  have hdc := Decode_any true w3 g w2.heap.size M n c A t alStd (List.replicate M (.int .u8 0)) (by rfl) alStd_ok num_std HNL.out ((RB.below HRB.out HB2.out (Nat.le_refl _)).below HBB3.out (Nat.le_refl _)) hn hc (by have := HE.out.lt; omega) (by
        intro hn0 ad had e
        obtain ⟨ad', h5, h6, _⟩ := HRB.out.2 hn0
        rw [had] at h5
        obtain rfl := Option.some.inj h5
        have := HB2.out.size
        omega) (HE.out.below HBB3.out HE.out.lt) (by simpa using HB3.out) HM.out (by simp)
  have HDC := Lib.hid hdc
  clear hdc
  refine HDC.out.mono ?_
  rintro e w4 ⟨hg4, hh⟩
  have HG4 := Lib.hid hg4
  clear hg4
  have hB4 : Below w.heap.size w w4 := HB2.out.trans ((below_of_grown (grown_trans (grown_of_below HBB3.out (Nat.le_refl _) _) HG4.out) (Nat.le_refl _) (Nat.le_refl _)).mono HB2.out.size)
  have HB4 := Lib.hid hB4
  clear hB4
  rcases hh with ⟨out, cur, hdec, rfl, hb4, hcl, hle, htk⟩ | ⟨hdec, x, T, v, rfl⟩
  · have hcut : ∀ W : World, (Instr.slice 23 (.slice (some ⟨w2.heap.size, 0, none⟩) M M) none (some (.int .i64 (out.length : Nat))) none).run Tryd.prog W = .ok (.slice (some ⟨w2.heap.size, 0, none⟩) out.length M) W := by
      have hel : Tryd.prog.elem 23 = 5 := by simp [Program.elem, Tryd.underlying23]
      have hu : Tryd.prog.underlying 23 = some (.slice (Tryd.prog.elem 23)) := by rw [hel]; exact Tryd.underlying23
      intro W
      rw [run_slice_h W 23 _ M M hu .i64 (out.length : Int) (by omega) (by omega), hel]
      simp [sizeOf, typeInfo, HI.out.1, HI.out.2.2.1, sliced, Result.andThen]
      exact fun _ => add_at _ _ 0
    have HO := Lib.hid (And.intro hdec (And.intro hb4 (And.intro hcl (And.intro hle htk))))
    clear hdec hb4 hcl htk
    go_wp2
    go_ret2
    refine ⟨HB4.out, .inl ⟨_, out, HPD.out _ HO.out.1, rfl, OwnB.mk' rfl hle ⟨by rw [bys_length]; omega, .inr ⟨w2.heap.size, M, _, rfl, HB2.out.size, HO.out.2.1, hle, by unfold maxLen; omega, by rw [List.size_toArray, HO.out.2.2.1, Nat.mul_one], by rw [Nat.mul_one]; exact HO.out.2.2.2.2⟩⟩⟩⟩
  · have HO := Lib.hid hdec
    clear hdec
    go_wp2_with fail
    refine (errorsNew_calls w4 _).mono ?_
    rintro e w5 ⟨⟨T2, v2, rfl⟩, hB5⟩
    have HB5 := Lib.hid hB5
    clear hB5
    go_wp2
    go_ret2
    exact ⟨below_then HB4.out HB5.out, .inr ⟨HPD.out _ HO.out, _, _, _, rfl⟩⟩
theorem dd_any (w : World) (A : Option Addr) (n c : Nat) (t : List UInt8) (h : RB w A n t) (hc : n ≤ c) (hn : n ≤ 100000) (hnl : ∀ c ∈ t, c ≠ 10 ∧ c ≠ 13) :
    Calls Tryd.prog 71 #[.agg #[], .slice A n c] w (DDPost w t) := by
  cases hp : isPad t with
  | false =>
    cases hs : isStd t with
    | false => exact dd_rawurl w A n c t h hc hn hnl hp hs
    | true => exact dd_rawstd w A n c t h hc hn hnl hp hs
  | true =>
    cases hs : isStd t with
    | false => exact dd_url w A n c t h hc hn hnl hp hs
    | true => exact dd_std w A n c t h hc hn hnl hp hs
end Go.Proofs.YteecamdcfkielaaDoor.B64
