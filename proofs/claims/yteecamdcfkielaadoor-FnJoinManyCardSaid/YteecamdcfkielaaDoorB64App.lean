/- Walks of slices.Grow and AppendEncode on a row of the call's own; the conditions are on sizes alone. -/
import Derived.Test.YteecamdcfkielaaDoorB64Write
import Derived.Lib.AppendZerosOnto
import Derived.Lib.Walk
set_option linter.unusedVariables false
set_option linter.unusedSimpArgs false
namespace Go.Proofs.YteecamdcfkielaaDoor.B64
open Go.RowKit Go.Proofs.YteecamdcfkielaaDoor.K Go.Proofs.YteecamdcfkielaaDoor.Own
/-- A row with room: len bytes are known, and room for n more. -/
structure Roomy (w : World) (base g len n c : Nat) (l : List UInt8) (cur : List Value) : Prop where
  blk : Blk w g 5 cur.toArray
  len_ : cur.length = c
  take_ : cur.take len = bys l
  l_ : l.length = len
  room : len + n ≤ c
  max_ : c ≤ maxLen
  base_ : base ≤ g
def GrowPost (w : World) (base : Nat) (A : Option Addr) (len n : Nat) (l : List UInt8) (e : Ending) (w' : World) : Prop :=
  ∃ (g c' : Nat) (cur : List Value), e = .returned (.slice (some ⟨g, 0, none⟩) len c') ∧ Roomy w' base g len n c' l cur ∧ Below w.heap.size w w' ∧ (A = some ⟨g, 0, none⟩ ∨ w.heap.size ≤ g)
set_option maxRecDepth 100000 in
set_option maxHeartbeats 1000000 in
theorem Grow_calls (w : World) (base : Nat) (A : Option Addr) (len n c : Nat) (l : List UInt8) (hO : OwnB base w (.slice A len c) l) (hl : len ≤ 100000000) (hn : n ≤ 100000000) (h0 : 0 < n) (hb : base ≤ w.heap.size) :
    Calls Tryd.prog 65 #[.slice A len c, .int .i64 n] w (GrowPost w base A len n l) := by
  obtain ⟨A', cc, hv, hlc, ho⟩ := hO
  injection hv with e1 e2 e3
  subst e1 e2 e3
  obtain ⟨len, hlen⟩ : ∃ n, n = l.length := ⟨_, rfl⟩
  rw [← hlen] at hlc hl ho ⊢
  have HLEN := Lib.hid hlen
  clear hlen
  obtain ⟨i0, hi0, hz0, hz1, hz2⟩ := info_parts info_u8
  have hcm : c ≤ maxLen := by
    rcases ho.2 with ⟨h, _⟩ | ⟨g, cap, cur, h, _, _, _, hm, _⟩
    · injection h with _ _ h; subst h; exact Nat.zero_le _
    · injection h with _ _ h; subst h; exact hm
  have hcm2 : c ≤ 9223372036854775807 := by unfold maxLen at hcm; omega
  have HCM := Lib.hid hcm
  clear hcm
  by_cases hroom : len + n ≤ c
  · rcases ho.2 with ⟨h, _⟩ | ⟨g, cap, cur, h, hbg, hg, _, hm, hcs, htk⟩
    · injection h with _ _ h; omega
    · injection h with h1 h2 h3
      subst h1 h3
      have h4 : ¬ ((n : Int) - ((c : Int) - (len : Int)) > 0) := by omega
      go_enter Tryd.func65, Tryd.ntmps65
      go_wp2
      go_ret
      exact ⟨g, c, cur.toList, rfl, ⟨hg, by rw [Array.length_toList, hcs, Nat.mul_one], by rw [Nat.mul_one] at htk; exact htk, HLEN.out.symm, hroom, HCM.out, hbg⟩, Below.refl _ _, .inl rfl⟩
  · obtain ⟨cs, hcs, hnil, hcells, htk⟩ : ∃ cs : List Value, cs.length = c ∧ (A = none → c = 0) ∧ (∀ a, A = some a → ∀ j v, cs[j]? = some v → w.cell? (a.add j) = some v) ∧ cs.take len = bys l := by
      rcases ho.2 with ⟨h, h'⟩ | ⟨g, cap, cur, h, hbg, hg, _, hm, hcs, htk⟩
      · injection h with h1 h2 h3
        subst h1 h3
        have := HLEN.out
        have h5 : l = [] := List.eq_nil_of_length_eq_zero (by omega)
        exact ⟨[], rfl, (fun _ => rfl), (fun a h => by cases h), by simp [h5, bys]⟩
      · injection h with h1 h2 h3
        subst h1 h3
        refine ⟨cur.toList, by rw [Array.length_toList, hcs, Nat.mul_one], (fun h => by cases h), fun a ha j v hj => ?_, by rw [Nat.mul_one] at htk; exact htk⟩
        obtain rfl := Option.some.inj ha
        rw [add_plain, cell_of_row w g j cur 5 (0, 0) hg]
        simpa using hj
    have h4 : (n : Int) - ((c : Int) - (len : Int)) > 0 := by omega
    have hck : c + (len + n - c) = len + n := by omega
    have hold : (Builtin.firstCells i0.size c (.slice A c c)).run Tryd.prog w.drew = .ok cs.toArray w.drew := by
      rw [hz1]
      cases A with
      | none =>
        have h0 := hnil rfl
        subst h0
        have hc0 : cs = [] := List.length_eq_zero_iff.1 hcs
        rw [hc0]
        exact run_firstCells_none w.drew 1 0 0 0
      | some a => exact run_firstCells_some w.drew 1 c a c c cs (by omega) (fun j v hj => hcells a rfl j v hj)
    have hrz : ∀ ty, (Builtin.append_ #[23, 3] ty #[.slice A c c, .int .i64 ((n : Int) - ((c : Int) - (len : Int)))]).run Tryd.prog w =
        .ok (.slice (some ⟨w.heap.size, 0, none⟩) (len + n) (grownCap w (len + n) c 5)) (w.drew.alloc (.cells (cs.toArray ++ Builtin.zeroCells (Value.int .u8 0).cells (len + n - c) ++ Builtin.zeroCells (Value.int .u8 0).cells (grownCap w (len + n) c 5 - (len + n))) 5)) := fun ty => by
      have h := Lib.run_append_grow_zeros w 23 3 ty 5 i0 (.int .u8 0) .i64 .i64 Tryd.underlying23 Tryd.underlying3 hi0 hz0 A c c cs hold (len + n - c) (by omega) (by omega) (by omega) (by omega)
        (by rw [hz2]; omega) (by rw [hck, hz2]; exact growslice_fits (by omega) (by omega))
      rw [hck] at h
      rw [show (n : Int) - ((c : Int) - (len : Int)) = ((len + n - c : Nat) : Int) by omega]
      exact h
    have hGn : len + n ≤ grownCap w (len + n) c 5 := grownCap_ge w _ _ _
    obtain ⟨G, hG⟩ : ∃ G, G = grownCap w (len + n) c 5 := ⟨_, rfl⟩
    rw [← hG] at hrz hGn
    have hGm : G ≤ maxLen := by
      rw [hG]; exact grownCap_le_maxLen w (len + n) c 5 (by unfold maxLen; omega)
    have hG63 : G ≤ 9223372036854775807 := by unfold maxLen at hGm; omega
    obtain ⟨nw, hnw⟩ : ∃ nw, nw = cs.toArray ++ Builtin.zeroCells (Value.int .u8 0).cells (len + n - c) ++ Builtin.zeroCells (Value.int .u8 0).cells (G - (len + n)) := ⟨_, rfl⟩
    rw [← hnw] at hrz
    have hnl : nw.toList = cs ++ (List.replicate (len + n - c) (Value.int .u8 0) ++ List.replicate (G - (len + n)) (Value.int .u8 0)) := by
      have z : ∀ k, (Builtin.zeroCells (Value.int .u8 0).cells k).toList = List.replicate k (Value.int .u8 0) := fun k => by
        apply List.ext_getElem
        · simp [Builtin.zeroCells, Value.cells]
        · intro i h1 h2
          simp [Builtin.zeroCells, Value.cells, Nat.mod_one]
      rw [hnw, Array.toList_append, Array.toList_append, z, z, List.append_assoc]
    have HN : Hid (nw.toList.length = G ∧ nw.toList.take len = bys l) := Lib.hid (by
      rw [hnl]
      refine ⟨by simp only [List.length_append, List.length_replicate]; omega, ?_⟩
      rw [List.take_append_of_le_length (by omega), htk])
    have HGM := Lib.hid hGm
    clear hold hck hG hcs hcells htk hGm hnw hnl ho
    go_enter Tryd.func65, Tryd.ntmps65
    cases A with
    | none =>
      have h0 := hnil rfl
      subst h0
      obtain rfl : len = 0 := by omega
      go_wp2_with (at_builtin; refine Lib.wpList_append_run _ rfl _ _ _ _ rfl _ _ rfl rfl _ _ (hrz _) ?_)
      all_goals (go_ret; exact ⟨w.heap.size, G, nw.toList, rfl, ⟨Blk.new w.drew 5 nw, HN.out.1, HN.out.2, HLEN.out.symm, hGn, HGM.out, hb⟩, ((Below.refl w.heap.size w).drew).alloc (Nat.le_refl _) _, .inr (Nat.le_refl _)⟩)
    | some a =>
      obtain ⟨ab, ao, asp⟩ := a
      go_wp2_with (at_builtin; refine Lib.wpList_append_run _ rfl _ _ _ _ rfl _ _ rfl rfl _ _ (hrz _) ?_)
      all_goals (go_ret; exact ⟨w.heap.size, G, nw.toList, rfl, ⟨Blk.new w.drew 5 nw, HN.out.1, HN.out.2, HLEN.out.symm, hGn, HGM.out, hb⟩, ((Below.refl w.heap.size w).drew).alloc (Nat.le_refl _) _, .inr (Nat.le_refl _)⟩)
set_option maxRecDepth 100000 in
theorem Grow0_calls (w : World) (A : Option Addr) (len c : Nat) (hl : len ≤ c) (hc : c ≤ 9223372036854775807) :
    Calls Tryd.prog 65 #[.slice A len c, .int .i64 0] w fun e w' => e = .returned (.slice A len c) ∧ w = w' := by
  have h4 : ¬ ((0 : Int) - ((c : Int) - (len : Int)) > 0) := by omega
  go_enter Tryd.func65, Tryd.ntmps65
  go_wp2
  go_ret
  exact ⟨rfl, rfl⟩
set_option maxRecDepth 100000 in
theorem Encode0_calls (w : World) (g n c : Nat) (p A : Option Addr) (cs : Array Value) (hb : Blk w g 78 cs) :
    Calls Tryd.prog 62 #[.pointer (some ⟨g, 0, none⟩), .slice p 0 n, .slice A 0 c] w fun e w' => e = .returned (.tuple #[]) ∧ w = w' := by
  go_enter Tryd.func62, Tryd.ntmps62
  go_wp2
  exact bodyPost_ret (v := .tuple #[]) (by kernel_rfl) rfl ⟨rfl, rfl⟩
theorem OwnB.mk' {base : Nat} {w : World} {A : Option Addr} {n c : Nat} {l : List UInt8} (hn : n = l.length) (hc : n ≤ c) (h : w.ownsRow base 5 1 (.slice A n c) n (bys l)) : OwnB base w (.slice A n c) l := by
  subst hn
  exact ⟨A, c, rfl, hc, h⟩
def AppPost (w : World) (base : Nat) (A : Option Addr) (l : List UInt8) (e : Ending) (w' : World) : Prop :=
  ∃ (A' : Option Addr) (c' : Nat), e = .returned (.slice A' l.length c') ∧ OwnB base w' (.slice A' l.length c') l ∧ w.grownBy w' (A.map (·.block)) ∧ (∀ k, A'.map (·.block) = some k → A.map (·.block) = some k ∨ w.heap.size ≤ k)
theorem blk_ne {w : World} {g g' : Nat} {t t' : TypeId} {cs cs' : Array Value} (h : Blk w g t cs) (h' : Blk w g' t' cs') (hne : t ≠ t') : g ≠ g' := by
  intro e
  subst e
  unfold Blk at h h'
  rw [h] at h'
  injection h' with h'
  injection h' with _ h'
  exact hne h'
set_option maxRecDepth 100000 in
set_option maxHeartbeats 1000000 in
theorem AppendEncode_calls (w : World) (base g : Nat) (al dm : List UInt8) (ha : al.length = 64) (hd : dm.length = 256) (hb : Blk w g 78 (encC al dm (-1)).toArray)
    (A : Option Addr) (len c : Nat) (l : List UInt8) (hO : OwnB base w (.slice A len c) l) (hl : len ≤ 10000000) (hbase : base ≤ w.heap.size)
    (A2 : Option Addr) (m c2 : Nat) (bs : List UInt8) (hrb : RB w A2 m bs) (hm : m ≤ 100000) (hmc : m ≤ c2) (hsep : ∀ ad, A = some ad → Sep A2 ad.block) :
    Calls Tryd.prog 59 #[.pointer (some ⟨g, 0, none⟩), .slice A len c, .slice A2 m c2] w (AppPost w base A (l ++ encRaw al bs)) := by
  have hlen : len = l.length := by
    obtain ⟨_, _, hv, _, _⟩ := hO
    injection hv
  have hlc : len ≤ c ∧ c ≤ 9223372036854775807 := by
    obtain ⟨_, _, hv, hlc, ho⟩ := hO
    injection hv with e1 e2 e3
    subst e1 e2 e3
    refine ⟨hlc, ?_⟩
    rcases ho.2 with ⟨h, _⟩ | ⟨g, cap, cur, h, _, _, _, hm, _⟩
    · injection h with _ _ h; omega
    · injection h with _ _ h; subst h; unfold maxLen at hm; omega
  obtain ⟨hlc, hcm⟩ := hlc
  obtain ⟨i0, hi, hz0, hz1, hz2⟩ := info_parts info_u8
  by_cases hm0 : m = 0
  · subst hm0
    have hbs : bs = [] := List.eq_nil_of_length_eq_zero hrb.len.symm
    have hL := EncodedLen_calls w g 0 al dm ha hd hb (by decide)
    rw [show rawLen 0 = 0 from rfl] at hL
    have HL := Lib.hid hL
    have HO := Lib.hid hO
    have HB := Lib.hid hb
    have HG := Lib.hid (Grow0_calls w A len c hlc hcm)
    have HLEN := Lib.hid hlen
    have HI := Lib.hid (And.intro hi hz1)
    have h1 : ∃ A1 c1, ∀ W : World, (Instr.slice 23 (.slice A len c) (some (.int .i64 (len : Nat))) none none).run Tryd.prog W = .ok (.slice A1 0 c1) W := by
      have hel : Tryd.prog.elem 23 = 5 := by simp [Program.elem, Tryd.underlying23]
      have hu : Tryd.prog.underlying 23 = some (.slice (Tryd.prog.elem 23)) := by rw [hel]; exact Tryd.underlying23
      refine ⟨if c - len = 0 then A else A.map (·.add (len * 1)), c - len, fun W => ?_⟩
      rw [run_slice_l W 23 A len c hu .i64 (len : Int) (by omega) (by omega), hel]
      simp [sizeOf, typeInfo, hi, hz1, sliced, Result.andThen]
      split <;> split <;> first | rfl | omega
    obtain ⟨A1, c1, h1⟩ := h1
    clear hL hO hb hrb hsep hlen hi hz0 hz1 hz2
    go_enter Tryd.func59, Tryd.ntmps59
    go_wp2_with (first
      | (go_at_call 64; refine HL.out.mono ?_; rintro e w' ⟨rfl, rfl⟩)
      | (go_at_call 65; refine HG.out.mono ?_; rintro e w' ⟨rfl, rfl⟩)
      | (go_at_call 62; refine (Encode0_calls w g _ _ _ _ _ HB.out).mono ?_; rintro e w' ⟨rfl, rfl⟩))
    go_ret
    have e := HLEN.out
    refine ⟨A, c, ?_, ?_, World.grownBy.refl _ _, fun k hk => .inl hk⟩
    · rw [hbs, show encRaw al [] = [] from rfl, List.append_nil, ← e]; rfl
    · have h := HO.out
      rw [hbs, show encRaw al [] = [] from rfl, List.append_nil, ← e]
      exact h
  · obtain ⟨n, hn⟩ : ∃ n, n = rawLen m := ⟨_, rfl⟩
    have hn0 : 0 < n := by rw [hn, rawLen]; omega
    have hn1 : n ≤ 200000 := by rw [hn, rawLen]; omega
    have hL := EncodedLen_calls w g m al dm ha hd hb (by omega)
    rw [← hn] at hL
    have HL := Lib.hid hL
    have HG := Lib.hid (Grow_calls w base A len n c l hO (by omega) (by omega) hn0 hbase)
    have HB := Lib.hid hb
    have HLEN := Lib.hid hlen
    have HRB := Lib.hid hrb
    have HN := Lib.hid hn
    have HI := Lib.hid (And.intro hi hz1)
    clear hL hO hb hrb hlen hi hz0 hz1 hz2 hn
    go_enter Tryd.func59, Tryd.ntmps59
    go_wp2_with (first
      | (go_at_call 64; refine HL.out.mono ?_; rintro e w' ⟨rfl, rfl⟩))
    refine HG.out.mono ?_
    rintro e w1 ⟨g', c', cur, rfl, hR, hB1, hg'⟩
    have h1 : ∀ W : World, (Instr.slice 23 (.slice (some ⟨g', 0, none⟩) len c') (some (.int .i64 (len : Nat))) none none).run Tryd.prog W = .ok (.slice (some ⟨g', len, none⟩) 0 (c' - len)) W := by
      have hel : Tryd.prog.elem 23 = 5 := by simp [Program.elem, Tryd.underlying23]
      have hu : Tryd.prog.underlying 23 = some (.slice (Tryd.prog.elem 23)) := by rw [hel]; exact Tryd.underlying23
      intro W
      have hr := hR.room
      rw [run_slice_l W 23 _ len c' hu .i64 (len : Int) (by omega) (by omega), hel]
      simp [sizeOf, typeInfo, HI.out.1, HI.out.2, sliced, Result.andThen, add_plain]
      omega
    have h2 : ∀ W : World, (Instr.slice 23 (.slice (some ⟨g', len, none⟩) 0 (c' - len)) none (some (.int .i64 (n : Nat))) none).run Tryd.prog W = .ok (.slice (some ⟨g', len, none⟩) n (c' - len)) W := by
      have hel : Tryd.prog.elem 23 = 5 := by simp [Program.elem, Tryd.underlying23]
      have hu : Tryd.prog.underlying 23 = some (.slice (Tryd.prog.elem 23)) := by rw [hel]; exact Tryd.underlying23
      intro W
      have hr := hR.room
      rw [run_slice_h W 23 _ 0 (c' - len) hu .i64 (n : Int) (by omega) (by omega), hel]
      simp [sizeOf, typeInfo, HI.out.1, HI.out.2, sliced, Result.andThen]
      exact fun _ => add_at _ _ 0
    have h3 : ∀ W : World, (Instr.slice 23 (.slice (some ⟨g', 0, none⟩) len c') none (some (.int .i64 ((len : Int) + (n : Int)))) none).run Tryd.prog W = .ok (.slice (some ⟨g', 0, none⟩) (len + n) c') W := by
      have hel : Tryd.prog.elem 23 = 5 := by simp [Program.elem, Tryd.underlying23]
      have hu : Tryd.prog.underlying 23 = some (.slice (Tryd.prog.elem 23)) := by rw [hel]; exact Tryd.underlying23
      intro W
      have hr := hR.room
      rw [run_slice_h W 23 _ len c' hu .i64 ((len : Int) + (n : Int)) (by omega) (by omega), hel]
      simp [sizeOf, typeInfo, HI.out.1, HI.out.2, sliced, Result.andThen]
      exact ⟨fun _ => add_at _ _ 0, by omega⟩
    have hb1 : Blk w1 g 78 (encC al dm (-1)).toArray := HB.out.below hB1 HB.out.lt
    have hne : g ≠ g' := blk_ne hb1 hR.blk (by decide)
    have hsep1 : Sep A2 g' := by
      intro ad had
      rcases hg' with h | h
      · exact hsep _ h ad had
      · obtain ⟨ad', h5, h6, _⟩ := HRB.out.2 (by omega)
        rw [had] at h5
        obtain rfl := Option.some.inj h5
        omega
    have hE := Encode_calls w1 g g' len m n A2 c2 (c' - len) bs al dm cur ha hd (HRB.out.below hB1 (Nat.le_refl _)) hmc (fun _ => hsep1) hne hb1 hR.blk HN.out (by have := hR.room; have := hR.len_; omega) (by have := hR.room; omega) hm (some ⟨g', len, none⟩) (fun _ => rfl)
    have HE := Lib.hid hE
    have HR := Lib.hid hR
    have HB1 := Lib.hid hB1
    have HG' := Lib.hid hg'
    have HM0 := Lib.hid hm0
    clear hE hR hb1 hB1 hg' hsep1 hsep hm0
    go_wp2_with (first
      | (go_at_call 62; refine HE.out.mono ?_; rintro e w2 ⟨rfl, hb2, hg2⟩; have HB2 := Lib.hid hb2; have HG2 := Lib.hid hg2; clear hb2 hg2))
    go_ret
    have e1 : len + n = (l ++ encRaw al bs).length := by rw [List.length_append, ← HLEN.out, encRaw_len, ← HRB.out.len, HN.out]
    have hr := HR.out
    refine ⟨some ⟨g', 0, none⟩, c', ?_, ?_, ?_, ?_⟩
    · rw [← e1]; rfl
    · rw [← e1]
      have hrm := hr.room
      have h4 := splice_len cur (bys (encRaw al bs)) len (by rw [bys_length, encRaw_len, ← HRB.out.len, ← HN.out, hr.len_]; omega)
      refine OwnB.mk' e1 (by omega) ⟨by rw [bys_length, ← e1]; omega, .inr ⟨g', c', _, rfl, hr.base_, HB2.out, hrm, hr.max_, by simp only [List.size_toArray]; rw [h4, hr.len_, Nat.mul_one], ?_⟩⟩
      have h5 : (cur.take len).length = len := by rw [List.length_take, hr.len_]; omega
      have h6 : (bys (encRaw al bs)).length = n := by rw [bys_length, encRaw_len, ← HRB.out.len, ← HN.out]
      unfold splice
      rw [Nat.mul_one, ← List.append_assoc, List.take_append_of_le_length (by rw [List.length_append]; omega), List.take_of_length_le (by rw [List.length_append]; omega), hr.take_, bys_append]
    · rcases HG'.out with h | h
      · rw [h]
        exact grown_trans (grown_of_below HB1.out (Nat.le_refl _) _) HG2.out
      · exact grown_of_below (HB1.out.trans (below_of_grown HG2.out h HB1.out.size)) (Nat.le_refl _) _
    · intro k hk
      have hk : g' = k := by simpa using hk
      subst hk
      rcases HG'.out with h | h
      · rw [h]; exact .inl rfl
      · exact .inr h
end Go.Proofs.YteecamdcfkielaaDoor.B64
