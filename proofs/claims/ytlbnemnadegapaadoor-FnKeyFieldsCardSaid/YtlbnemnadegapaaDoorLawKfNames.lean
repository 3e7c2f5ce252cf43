/- laws.fieldsFit; the walk of the law FnKeyFieldNames; no condition. -/
import Derived.Test.YtlbnemnadegapaaDoorKfEnd
import Derived.Test.YtlbnemnadegapaaDoorKfFits
import Derived.Deep.LoopGhost
set_option linter.unusedVariables false
set_option linter.unusedSimpArgs false
namespace Go.Proofs.YtlbnemnadegapaaDoor.Kf
open Go.RowKit Go.Proofs.YtlbnemnadegapaaDoor.K Go.Proofs.YtlbnemnadegapaaDoor.Nm Go.Proofs.YtlbnemnadegapaaDoor.Ky
open Go.Sort
section
variable {w w' : World}
theorem StR.fsl {ms : List FM} {j : Nat} {A : Option Addr} {c : Nat} {wr : World} {ss : List FS} (h : StR w ms j (.slice A j c) wr ss) : FSL wr A j ss ∧ (A = none → c = 0) := by
  obtain ⟨h1, h2, h3, h4⟩ := h
  refine ⟨⟨Reads.of_own h1, fun s hs => ⟨(h3 s hs).1.slt, (h3 s hs).2.1, (h3 s hs).2.2⟩⟩, fun e => ?_⟩
  subst e
  rcases h1.2 with ⟨e, _⟩ | ⟨g, cap, cur, e, _⟩
  · injection e
  · injection e with e; cases e
theorem SortOwn_calls {B : Nat} {A : Option Addr} {n c : Nat} {l : List ByteArray} (h : w.ownsRow B 9 1 (.slice A n c) n (l.map Value.string)) (hl : l.length = n) (h0 : 0 < n) (hn : n ≤ 12) (hB : B ≤ w.heap.size) :
    Calls Tryd.prog 19 #[.slice A n c] w fun e w' => e = .returned (.tuple #[]) ∧ w'.ownsRow B 9 1 (.slice A n c) n ((srt l).map Value.string) ∧ Below B w w' := by
  rcases h.2 with ⟨e, hz⟩ | ⟨gb, cap, cur, e, hbase, hgb, r1, r2, r3, r4⟩
  · omega
  injection e with e1 e2 e3
  subst e1; subst e3
  clear e2
  obtain ⟨ss, hss⟩ : ∃ ss, ss = l.map byL := ⟨_, rfl⟩
  have hsl : ss.length = n := by rw [hss]; simp [hl]
  have hH : Holds encStr w gb 0 ss.toArray := holds_of_block hgb (by rw [hsl, hss, map_enc]; simpa using r4)
  refine (Sort_calls gb 0 c n ss.toArray w hH (by simp [hsl]) hn).mono ?_
  rintro e w2 ⟨rfl, k, rfl⟩
  have hsl2 : (sortL ss).length = ss.length := by unfold sortL; simp
  refine ⟨rfl, ?_, ?_⟩
  · rw [← srt_map, ← hss, ← hsl, ins_sorted, ← Ky.ahead_grow (putRow _ _ _ _ _)]
    exact ownsRow_sorted hsl2 hbase hgb (by omega) r2 r3
  · rw [← hsl, ins_sorted, ← Ky.ahead_grow (putRow _ _ _ _ _)]
    exact (Below.refl B w).grown (grownBy_sorted _) hB (fun j hj => by cases hj; exact hbase)
set_option maxRecDepth 100000 in
theorem fieldsFit_calls (w : World) (A A2 : Option Addr) (n c m c2 : Nat) (ms : List FM) (h : FML w A2 m ms) :
    Calls Tryd.prog 17 #[.slice A n c, .slice A2 m c2] w (BoolP w fun r => r = true → 0 < n ∧ n ≤ 60 ∧ m ≤ 30 ∧ ∀ m ∈ ms, m.n ≤ 8) := by
  by_cases h1 : 0 < n
  · by_cases h2 : n ≤ 60
    · by_cases h3 : m ≤ 30
      · have k1 : (0 : Int) < (n : Int) := by omega
        have k2 : (n : Int) ≤ 60 := by omega
        have k3 : (m : Int) ≤ 30 := by omega
        have HC := Lib.hid (contains_34 w A2 m c2 ms h (by omega))
        clear h
        go_enter Tryd.func17, Tryd.ntmps17
        go_wp2_with (go_at_call 8; (with_reducible refine Calls.mono HC.out ?_); rintro e w1 ⟨⟨r, rfl, hr⟩, hb⟩; have HR := Lib.hid (And.intro hr hb); clear hr hb)
        go_ret
        exact ⟨⟨_, rfl, fun e => ⟨h1, h2, h3, HR.out.1 (by cases r with | false => rfl | true => cases e)⟩⟩, HR.out.2⟩
      · have k1 : (0 : Int) < (n : Int) := by omega
        have k2 : (n : Int) ≤ 60 := by omega
        have k3 : ¬ (m : Int) ≤ 30 := by omega
        go_enter Tryd.func17, Tryd.ntmps17
        go_wp2
        go_ret
        exact ⟨⟨_, rfl, by first | rfl | trivial | (intro e; cases e)⟩, Below.refl _ _⟩
    · have k1 : (0 : Int) < (n : Int) := by omega
      have k2 : ¬ (n : Int) ≤ 60 := by omega
      go_enter Tryd.func17, Tryd.ntmps17
      go_wp2
      go_ret
      exact ⟨⟨_, rfl, by first | rfl | trivial | (intro e; cases e)⟩, Below.refl _ _⟩
  · have k1 : ¬ (0 : Int) < (n : Int) := by omega
    go_enter Tryd.func17, Tryd.ntmps17
    go_wp2
    go_ret
    exact ⟨⟨_, rfl, by first | rfl | trivial | (intro e; cases e)⟩, Below.refl _ _⟩
end
/-- The names that a key should have. -/
def wantF (a k o u : Bool) : Nat → List ByteArray
  | 0 => [⟨#[107]⟩, ⟨#[107, 116, 121]⟩]
  | i + 1 => wantF a k o u i ++ (match i with
    | 0 => if k then [nKid] else []
    | 1 => if u then [nUse] else []
    | 2 => if o then [nOps] else []
    | _ => if a then [nAlg] else [])
theorem want_perm : ∀ a k o u : Bool, ((wantF a k o u 4).map byL).isPerm ((nmF a k o u).map byL) = true := by decide
theorem sortL_perm {a b : List (List UInt8)} (h : a.Perm b) : sortL a = sortL b := by
  unfold sortL
  refine List.Perm.eq_of_pairwise (le := fun x y => x ≤ y) (fun x y _ _ h1 h2 => List.le_antisymm h1 h2) ?_ ?_ ((List.mergeSort_perm _ _).trans (h.trans (List.mergeSort_perm _ _).symm))
  · exact (List.pairwise_mergeSort (le := fun x y => decide (x ≤ y)) (fun x y z h1 h2 => by simp only [decide_eq_true_eq] at *; exact List.le_trans h1 h2) (fun x y => by simp only [Bool.or_eq_true, decide_eq_true_eq]; exact List.le_total x y) _).imp (fun h => by simpa using h)
  · exact (List.pairwise_mergeSort (le := fun x y => decide (x ≤ y)) (fun x y z h1 h2 => by simp only [decide_eq_true_eq] at *; exact List.le_trans h1 h2) (fun x y => by simp only [Bool.or_eq_true, decide_eq_true_eq]; exact List.le_total x y) _).imp (fun h => by simpa using h)
theorem want_same (a k o u : Bool) : srt (wantF a k o u 4) = srt (nmF a k o u) := by
  unfold srt
  rw [sortL_perm (List.isPerm_iff.1 (want_perm a k o u))]
theorem want_head (a k o u : Bool) : ∀ i, (wantF a k o u i).head? = some ⟨#[107]⟩
  | 0 => rfl
  | i + 1 => by
    show (wantF a k o u i ++ _).head? = _
    have := want_head a k o u i
    cases h : wantF a k o u i with
    | nil => rw [h] at this; cases this
    | cons x r => rw [h] at this; simpa using this
theorem want_len : ∀ a k o u : Bool, ∀ i < 5, (wantF a k o u i).length ≤ 6 := by decide
theorem want_pos : ∀ a k o u : Bool, 0 < (wantF a k o u 4).length := by decide
def NmR (B : Nat) (a k o u : Bool) (i : Nat) (A : Option Addr) (n c : Nat) (wr : World) : Prop := wr.ownsRow B 9 1 (.slice A n c) n ((wantF a k o u i).map Value.string)
theorem NmR.len {B : Nat} {a k o u : Bool} {i : Nat} {A : Option Addr} {n c : Nat} {wr : World} (h : NmR B a k o u i A n c wr) : n = (wantF a k o u i).length := by have := h.1; simpa using this.symm
theorem own_app2 {ops : Array Oper} {rest : List Oper} {o : Oper} {a : Act} {Q : Exit → Act → World → Prop} {B : Nat} {w : World} {n c : Nat} {A : Option Addr} {xs : List Value} {s : ByteArray} {i0 : TypeInfo}
    (h : w.ownsRow B 9 1 (.slice A n c) n xs) (hB : B ≤ w.heap.size) (HI : Tryd.prog.info? 9 = some i0 ∧ i0.zero = some (.string ByteArray.empty) ∧ i0.size = 1 ∧ i0.bytes = 16) (hn : n < 10000) (hgd : o.guard = none) (s1 s2 : Operand)
    (ho : o.op = .call { callee := .builtin .append, args := #[s1, s2], argTypes := #[35, 35] }) (hs : a.eval s1 = .slice A n c) (he : a.eval s2 = .slice (some ⟨w.heap.size, 0, none⟩) 1 1)
    (hq : ∀ A' c' w8, w8.ownsRow B 9 1 (.slice A' (n + 1) c') (n + 1) (xs ++ [.string s]) → Below B w w8 → w.grownBy w8 (Value.slice A n c).ownBlock → wpList Tryd.prog ops Q rest (a.put o.dst (.slice A' (n + 1) c')) w8) : wpList Tryd.prog ops Q (o :: rest) a (w.alloc (.cells #[.string s] 9)) := by
  have h1' : (w.alloc (.cells #[.string s] 9)).ownsRow B 9 1 (.slice A n c) n xs := own_keep h (fun j cs hb => hb.alloc _)
  have hsz' : B ≤ (w.alloc (.cells #[.string s] 9)).heap.size := by simp only [World.size_alloc]; omega
  refine wpList_append_own _ hgd s1 s2 35 ho B 9 i0 (.string ByteArray.empty) 1 16 Tryd.underlying35 HI.1 HI.2.1 HI.2.2.1 HI.2.2.2 rfl (by decide) _ n xs hs h1' ⟨w.heap.size, 0, none⟩ 1 1 [.string s] he rfl (one_new _ _ _) (by intro u hu; rw [List.mem_singleton.1 hu]; rfl) (by unfold maxLen; omega) (by omega) hsz' ?_
  intro v' w8 hown hg _
  obtain ⟨A', c', rfl⟩ := own_slice hown
  exact hq A' c' w8 hown (((Below.refl B w).alloc hB _).trans (own_low h1' hg hsz')) (grown_trans (World.grownBy_alloc w _ _) hg)
theorem NmR.ne {B : Nat} {a k o u : Bool} {i : Nat} {A : Option Addr} {n c g : Nat} {wr : World} (h : NmR B a k o u i A n c wr) (hg : Blk wr g 9 #[.string ⟨#[107, 105, 100]⟩, .string ⟨#[117, 115, 101]⟩, .string ⟨#[107, 101, 121, 95, 111, 112, 115]⟩, .string ⟨#[97, 108, 103]⟩]) : some g ≠ (Value.slice A n c).ownBlock := by
  intro e
  have hh := want_head a k o u i
  rcases h.2 with ⟨e1, _⟩ | ⟨g', cap, cur, e1, _, hb, _, _, _, ht⟩
  · rw [e1] at e; cases e
  · rw [e1] at e
    have : g = g' := by injection e
    subst this
    have hb' : wr.heap[g]? = some (.cells #[.string ⟨#[107, 105, 100]⟩, .string ⟨#[117, 115, 101]⟩, .string ⟨#[107, 101, 121, 95, 111, 112, 115]⟩, .string ⟨#[97, 108, 103]⟩] 9 (0, 0)) := hg
    rw [hb'] at hb
    injection hb with hb
    injection hb with hb _
    rw [← hb] at ht
    have hn := h.len
    cases hw : wantF a k o u i with
    | nil => rw [hw] at hh; cases hh
    | cons y r =>
      rw [hw] at hh ht hn
      injection hh with hh
      subst hh
      rw [hn] at ht
      simp at ht
section
variable {w w' : World}
set_option maxRecDepth 100000 in
set_option maxHeartbeats 8000000 in
theorem FnKeyFieldNames_calls (w : World) (A0 : Option Addr) (n c0 : Nat) (l : List UInt8) (h0 : Reads w 1 A0 n (bys l)) (A1 : Option Addr) (n1 c1 : Nat) (ms : List FM) (h1 : FML w A1 n1 ms) :
    Calls Tryd.prog 4 #[.slice A0 n c0, .slice A1 n1 c1] w fun e w' => e = .returned (.bool true) ∧ Below w.heap.size w w' := by
  by_cases g0 : 2147483647 < n
  · have k0 : (2147483647 : Int) < (n : Int) := by omega
    go_enter Tryd.func4, Tryd.ntmps4
    go_wp2
    go_ret
    exact ⟨rfl, Below.refl _ _⟩
  have k0 : ¬ (2147483647 : Int) < (n : Int) := by omega
  have HZ := Lib.hid (zzFits12_calls w A1 n1 c1 ms h1)
  have HL := Lib.hid h0
  obtain ⟨j0, hj, hy0, hy1, hy2⟩ := info_parts infoStr
  have HIS := Lib.hid (And.intro hj (And.intro hy0 (And.intro hy1 hy2)))
  clear hj hy0 hy1 hy2
  have HM := Lib.hid h1
  clear h0 h1 g0
  go_enter Tryd.func4, Tryd.ntmps4
  go_wp2_with fail
  refine HZ.out.mono ?_
  rintro e w1 ⟨⟨r, rfl, hr⟩, hb1⟩
  have HB1 := Lib.hid hb1
  clear HZ
  cases r with
  | false =>
    go_wp2_with fail
    go_ret
    exact ⟨rfl, HB1.out⟩
  | true =>
    have hn1 : n1 ≤ 2147483647 := hr rfl
    have hM1 := HM.out.below hb1 (Nat.le_refl _)
    have HFit := Lib.hid (fieldsFit_calls w1 A0 A1 n c0 n1 c1 ms hM1)
    have HM1 := Lib.hid hM1
    clear hM1 hr hb1 HM
    go_wp2_with fail
    refine HFit.out.mono ?_
    rintro e w2 ⟨⟨r, rfl, hr⟩, hb2⟩
    have HB2 := Lib.hid (HB1.out.trans (hb2.mono HB1.out.size))
    clear HFit
    cases r with
    | false =>
      have HLive := Lib.hid (fieldsLive_calls w2)
      go_wp2_with (go_at_call 10; (with_reducible refine Calls.mono HLive.out ?_); rintro e w3 ⟨rfl, hb3⟩; have HB3 := Lib.hid (HB2.out.trans (hb3.mono HB2.out.size)); clear hb3)
      go_ret
      exact ⟨rfl, HB3.out⟩
    | true =>
      obtain ⟨hn0, hn60, hn30, hm8⟩ := hr rfl
      have hM2 := HM1.out.below hb2 (Nat.le_refl _)
      have HSt := Lib.hid (fieldSteps_calls w2 A1 n1 c1 ms hM2 (by omega) (fun m hm => by have h1 := (hM2.2 m hm).2.1; rw [bys_length] at h1; have := hm8 m hm; omega))
      obtain ⟨ad, rfl, _⟩ := HL.out.2 hn0
      have hll : l.length = n := by have := HL.out.1; rw [bys_length] at this; omega
      have HR2 := Lib.hid (HL.out.below HB2.out (Nat.le_refl _))
      have HLL := Lib.hid hll
      clear hM2 hm8 hr hb2 hll
      go_upto_region 6 with (first
        | (go_at_call 13; (with_reducible refine Calls.mono HSt.out ?_); rintro e w3 ⟨A3, c3, ss, rfl, hs⟩; have hb3 := hs.2.2.2; obtain ⟨hf, hz⟩ := hs.fsl; have HE := Lib.hid (fieldEnd_calls ad n c0 l HLL.out (HR2.out.below hb3 (Nat.le_refl _)) hn0 (by omega) A3 n1 c3 ss hf hz (by omega)); have HB3 := Lib.hid (HB2.out.trans (hb3.mono HB2.out.size)); clear hs hf hz hb3)
        | (go_at_call 18; (with_reducible refine Calls.mono HE.out ?_); rintro e w4 ⟨⟨rt, OA, Oc, NA, Nc, CA, Cc⟩, rfl, hrt, hnm, hb4⟩; replace hrt : rt = endT t0 ss := hrt; rw [← hrt] at hnm; unfold frc seenC; have H4 := Lib.hid (And.intro hnm (And.intro hrt (HB3.out.trans (hb4.mono HB3.out.size)))); have HX := Lib.hid (Blk.new w4 38 #[.bool false, .string ⟨#[]⟩, .string ⟨#[]⟩, .string ⟨#[]⟩, .slice none 0 0, .bool false, .bool false, .bool false, .bool false, .bool false, .bool false, .bool false, .bool false, .slice none 0 0, .slice none 0 0]); clear hnm hrt hb4)
        | ((with_reducible refine st_at (.tmp 5) ?_); refine store_blk15 rfl _ _ _ rfl w4.heap.size rfl #[.bool true, .string (rt.kid.getD ⟨#[]⟩), .string (rt.use.getD ⟨#[]⟩), .string (rt.alg.getD ⟨#[]⟩), .slice OA (rt.ops.getD []).length Oc, .bool rt.kid.isSome, .bool rt.use.isSome, .bool rt.ops.isSome, .bool rt.alg.isSome, .bool rt.kid.isSome, .bool rt.use.isSome, .bool rt.ops.isSome, .bool rt.alg.isSome, .slice NA rt.names.length Nc, .slice CA n Cc] _ rfl 38 HX.out 15 infoSz rfl rfl (seen_cells _ _ _ _ _ _ _ _ _ _ _ _ _ _ _ _ _ _ _ _ _) ?_; intro w5 hb5 hg5 hs5; have H5 := Lib.hid (And.intro hb5 ((below_alloc' (Below.refl w4.heap.size w4) (.cells #[.bool false, .string ⟨#[]⟩, .string ⟨#[]⟩, .string ⟨#[]⟩, .slice none 0 0, .bool false, .bool false, .bool false, .bool false, .bool false, .bool false, .bool false, .bool false, .slice none 0 0, .slice none 0 0] 38)).trans (below_of_grown hg5 (Nat.le_refl _) (by simp)))); clear hb5 hg5 hs5))
      obtain ⟨w7, hw7⟩ : ∃ w7, w7 = (w5.alloc (.cells #[.string ⟨#[107]⟩, .string ⟨#[107, 116, 121]⟩] 9)).alloc (.cells #[.string ⟨#[107, 105, 100]⟩, .string ⟨#[117, 115, 101]⟩, .string ⟨#[107, 101, 121, 95, 111, 112, 115]⟩, .string ⟨#[97, 108, 103]⟩] 9) := ⟨_, rfl⟩
      have hb57 : Below w5.heap.size w5 w7 := by rw [hw7]; exact below_alloc' (below_alloc' (Below.refl _ _) _) _
      have hs6 : (w5.alloc (.cells #[.string ⟨#[107]⟩, .string ⟨#[107, 116, 121]⟩] 9)).heap.size = w5.heap.size + 1 := by simp
      have hw : NmR w5.heap.size rt.alg.isSome rt.kid.isSome rt.ops.isSome rt.use.isSome 0 (some ⟨w5.heap.size, 0, none⟩) 2 2 w7 := by
        rw [hw7]
        exact own_keep (own_lit w5 9 1 2 #[.string ⟨#[107]⟩, .string ⟨#[107, 116, 121]⟩] rfl (by unfold maxLen; omega)) (fun j cs hb => hb.alloc _)
      have hN4 : Blk w7 (w5.heap.size + 1) 9 #[.string ⟨#[107, 105, 100]⟩, .string ⟨#[117, 115, 101]⟩, .string ⟨#[107, 101, 121, 95, 111, 112, 115]⟩, .string ⟨#[97, 108, 103]⟩] := by
        have := Blk.new (w5.alloc (.cells #[.string ⟨#[107]⟩, .string ⟨#[107, 116, 121]⟩] 9)) 9 #[.string ⟨#[107, 105, 100]⟩, .string ⟨#[117, 115, 101]⟩, .string ⟨#[107, 101, 121, 95, 111, 112, 115]⟩, .string ⟨#[97, 108, 103]⟩]
        rw [hs6] at this
        rw [hw7]; exact this
      have hX7 := H5.out.1.below hb57 H5.out.1.lt
      obtain ⟨o1, o2, o3⟩ := H4.out
      have hb37 := H5.out.2.trans (hb57.mono H5.out.2.size)
      have HNM := Lib.hid (own_keep (w' := w5) o1 (fun j cs hb => hb.below H5.out.2 hb.lt))
      have HB7 := Lib.hid (o3.trans (hb37.mono o3.size))
      have HR0 := Lib.hid hw
      have HN4 := Lib.hid hN4
      have HX7 := Lib.hid hX7
      have H57 := Lib.hid (And.intro hb57 (show w5.heap.size + 1 < w7.heap.size from hN4.lt))
      have HRT := Lib.hid o2
      have HWZ := Lib.hid o3.size
      have H45 := Lib.hid (show w.heap.size ≤ w5.heap.size from Nat.le_trans o3.size H5.out.2.size)
      have HWX := Lib.hid (show w4.heap.size < w5.heap.size from H5.out.1.lt)
      clear hw hN4 hX7 hb57 hs6 o1 o2 o3 hb37 H4 H5 HB2 HB3 HR2 HX
      go_upto_region 8 with (fail)
      rw [← hw7]
      clear hw7
      go_wp2_with fail
      go_loopg [29, 6] 4 (fun q u u6 wr => ∃ (i : Nat) (WA : Option Addr) (Wn Wc : Nat), q + i = 4 ∧ u = .int .i64 (i : Nat) ∧ u6 = .slice WA Wn Wc ∧ Hid (NmR w5.heap.size rt.alg.isSome rt.kid.isSome rt.ops.isSome rt.use.isSome i WA Wn Wc wr) ∧ Hid (Blk wr (w5.heap.size + 1) 9 #[.string ⟨#[107, 105, 100]⟩, .string ⟨#[117, 115, 101]⟩, .string ⟨#[107, 101, 121, 95, 111, 112, 115]⟩, .string ⟨#[97, 108, 103]⟩]) ∧ Hid (Blk wr w4.heap.size 38 #[.bool true, .string (rt.kid.getD ⟨#[]⟩), .string (rt.use.getD ⟨#[]⟩), .string (rt.alg.getD ⟨#[]⟩), .slice OA (rt.ops.getD []).length Oc, .bool rt.kid.isSome, .bool rt.use.isSome, .bool rt.ops.isSome, .bool rt.alg.isSome, .bool rt.kid.isSome, .bool rt.use.isSome, .bool rt.ops.isSome, .bool rt.alg.isSome, .slice NA rt.names.length Nc, .slice CA n Cc]) ∧ Hid (Below w5.heap.size w5 wr) ∧ Hid (Below w.heap.size w wr))
      case atStart => exact ⟨0, some ⟨w5.heap.size, 0, none⟩, 2, 2, rfl, rfl, rfl, HR0, HN4, HX7, Lib.hid H57.out.1, HB7⟩
      case round =>
        clear HR0 HN4 HX7 H57 HB7
        obtain ⟨i, WA, Wn, Wc, hq, rfl, rfl, HR, HN4, HX, H5, HB⟩ := hrel
        have hwn := HR.out.len
        by_cases hi : i < 4
        · have hii : (i : Int) < 4 := by omega
          have hwl := want_len rt.alg.isSome rt.kid.isSome rt.ops.isSome rt.use.isSome i (by omega)
          have HWN := Lib.hid (And.intro hwn hwl)
          clear hwn hwl
          rcases (show i = 0 ∨ i = 1 ∨ i = 2 ∨ i = 3 by omega) with rfl | rfl | rfl | rfl
          · have x1 : wr.cell? ⟨w5.heap.size + 1, 0, none⟩ = some (.string ⟨#[107, 105, 100]⟩) := by rw [HN4.out.cell]; rfl
            have x2 : wr.cell? ⟨w4.heap.size, 9, none⟩ = some (.bool rt.kid.isSome) := by rw [HX.out.cell]; rfl
            obtain ⟨b, hb⟩ : ∃ b, b = rt.kid.isSome := ⟨_, rfl⟩
            rw [← hb] at x2
            have HBB := Lib.hid hb
            clear hb
            cases b with
            | false =>
              go_wp2_with fail
              go_roundg 3
              case measure => omega
              case rel => exact ⟨1, WA, Wn, Wc, rfl, by go_num, rfl, Lib.hid (by have h := HR.out; unfold NmR at h ⊢; rw [show wantF rt.alg.isSome rt.kid.isSome rt.ops.isSome rt.use.isSome 1 = wantF rt.alg.isSome rt.kid.isSome rt.ops.isSome rt.use.isSome 0 ++ (if rt.kid.isSome then [nKid] else []) from rfl, show (if rt.kid.isSome then [nKid] else []) = ([] : List ByteArray) from by rw [← HBB.out]; rfl, List.append_nil]; exact h), HN4, HX, H5, HB⟩
            | true =>
              go_wp2_with (at_builtin; go_loud (refine own_app2 HR.out H5.out.size HIS.out (by have := HWN.out.1; have := HWN.out.2; omega) rfl _ _ rfl rfl rfl ?_; intro vA vc w8 hown hbl hg8; have HF := Lib.hid (And.intro hown (And.intro hbl hg8)); clear hown hbl hg8))
              go_roundg 3
              case measure => omega
              case rel =>
                obtain ⟨q1, q2, q3⟩ := HF.out
                exact ⟨1, vA, Wn + 1, vc, rfl, by go_num, rfl, Lib.hid (by unfold NmR; rw [show wantF rt.alg.isSome rt.kid.isSome rt.ops.isSome rt.use.isSome 1 = wantF rt.alg.isSome rt.kid.isSome rt.ops.isSome rt.use.isSome 0 ++ (if rt.kid.isSome then [nKid] else []) from rfl, show (if rt.kid.isSome then [nKid] else []) = ([nKid] : List ByteArray) from by rw [← HBB.out]; rfl, List.map_append]; exact q1), Lib.hid (HN4.out.grown q3 (HR.out.ne HN4.out)), Lib.hid (HX.out.below q2 HWX.out), Lib.hid (H5.out.trans q2), Lib.hid (HB.out.trans (q2.mono H45.out))⟩
          · have x1 : wr.cell? ⟨w5.heap.size + 1, 1, none⟩ = some (.string ⟨#[117, 115, 101]⟩) := by rw [HN4.out.cell]; rfl
            have x2 : wr.cell? ⟨w4.heap.size, 10, none⟩ = some (.bool rt.use.isSome) := by rw [HX.out.cell]; rfl
            obtain ⟨b, hb⟩ : ∃ b, b = rt.use.isSome := ⟨_, rfl⟩
            rw [← hb] at x2
            have HBB := Lib.hid hb
            clear hb
            cases b with
            | false =>
              go_wp2_with fail
              go_roundg 2
              case measure => omega
              case rel => exact ⟨2, WA, Wn, Wc, rfl, by go_num, rfl, Lib.hid (by have h := HR.out; unfold NmR at h ⊢; rw [show wantF rt.alg.isSome rt.kid.isSome rt.ops.isSome rt.use.isSome 2 = wantF rt.alg.isSome rt.kid.isSome rt.ops.isSome rt.use.isSome 1 ++ (if rt.use.isSome then [nUse] else []) from rfl, show (if rt.use.isSome then [nUse] else []) = ([] : List ByteArray) from by rw [← HBB.out]; rfl, List.append_nil]; exact h), HN4, HX, H5, HB⟩
            | true =>
              go_wp2_with (at_builtin; go_loud (refine own_app2 HR.out H5.out.size HIS.out (by have := HWN.out.1; have := HWN.out.2; omega) rfl _ _ rfl rfl rfl ?_; intro vA vc w8 hown hbl hg8; have HF := Lib.hid (And.intro hown (And.intro hbl hg8)); clear hown hbl hg8))
              go_roundg 2
              case measure => omega
              case rel =>
                obtain ⟨q1, q2, q3⟩ := HF.out
                exact ⟨2, vA, Wn + 1, vc, rfl, by go_num, rfl, Lib.hid (by unfold NmR; rw [show wantF rt.alg.isSome rt.kid.isSome rt.ops.isSome rt.use.isSome 2 = wantF rt.alg.isSome rt.kid.isSome rt.ops.isSome rt.use.isSome 1 ++ (if rt.use.isSome then [nUse] else []) from rfl, show (if rt.use.isSome then [nUse] else []) = ([nUse] : List ByteArray) from by rw [← HBB.out]; rfl, List.map_append]; exact q1), Lib.hid (HN4.out.grown q3 (HR.out.ne HN4.out)), Lib.hid (HX.out.below q2 HWX.out), Lib.hid (H5.out.trans q2), Lib.hid (HB.out.trans (q2.mono H45.out))⟩
          · have x1 : wr.cell? ⟨w5.heap.size + 1, 2, none⟩ = some (.string ⟨#[107, 101, 121, 95, 111, 112, 115]⟩) := by rw [HN4.out.cell]; rfl
            have x2 : wr.cell? ⟨w4.heap.size, 11, none⟩ = some (.bool rt.ops.isSome) := by rw [HX.out.cell]; rfl
            obtain ⟨b, hb⟩ : ∃ b, b = rt.ops.isSome := ⟨_, rfl⟩
            rw [← hb] at x2
            have HBB := Lib.hid hb
            clear hb
            cases b with
            | false =>
              go_wp2_with fail
              go_roundg 1
              case measure => omega
              case rel => exact ⟨3, WA, Wn, Wc, rfl, by go_num, rfl, Lib.hid (by have h := HR.out; unfold NmR at h ⊢; rw [show wantF rt.alg.isSome rt.kid.isSome rt.ops.isSome rt.use.isSome 3 = wantF rt.alg.isSome rt.kid.isSome rt.ops.isSome rt.use.isSome 2 ++ (if rt.ops.isSome then [nOps] else []) from rfl, show (if rt.ops.isSome then [nOps] else []) = ([] : List ByteArray) from by rw [← HBB.out]; rfl, List.append_nil]; exact h), HN4, HX, H5, HB⟩
            | true =>
              go_wp2_with (at_builtin; go_loud (refine own_app2 HR.out H5.out.size HIS.out (by have := HWN.out.1; have := HWN.out.2; omega) rfl _ _ rfl rfl rfl ?_; intro vA vc w8 hown hbl hg8; have HF := Lib.hid (And.intro hown (And.intro hbl hg8)); clear hown hbl hg8))
              go_roundg 1
              case measure => omega
              case rel =>
                obtain ⟨q1, q2, q3⟩ := HF.out
                exact ⟨3, vA, Wn + 1, vc, rfl, by go_num, rfl, Lib.hid (by unfold NmR; rw [show wantF rt.alg.isSome rt.kid.isSome rt.ops.isSome rt.use.isSome 3 = wantF rt.alg.isSome rt.kid.isSome rt.ops.isSome rt.use.isSome 2 ++ (if rt.ops.isSome then [nOps] else []) from rfl, show (if rt.ops.isSome then [nOps] else []) = ([nOps] : List ByteArray) from by rw [← HBB.out]; rfl, List.map_append]; exact q1), Lib.hid (HN4.out.grown q3 (HR.out.ne HN4.out)), Lib.hid (HX.out.below q2 HWX.out), Lib.hid (H5.out.trans q2), Lib.hid (HB.out.trans (q2.mono H45.out))⟩
          · have x1 : wr.cell? ⟨w5.heap.size + 1, 3, none⟩ = some (.string ⟨#[97, 108, 103]⟩) := by rw [HN4.out.cell]; rfl
            have x2 : wr.cell? ⟨w4.heap.size, 12, none⟩ = some (.bool rt.alg.isSome) := by rw [HX.out.cell]; rfl
            obtain ⟨b, hb⟩ : ∃ b, b = rt.alg.isSome := ⟨_, rfl⟩
            rw [← hb] at x2
            have HBB := Lib.hid hb
            clear hb
            cases b with
            | false =>
              go_wp2_with fail
              go_roundg 0
              case measure => omega
              case rel => exact ⟨4, WA, Wn, Wc, rfl, by go_num, rfl, Lib.hid (by have h := HR.out; unfold NmR at h ⊢; rw [show wantF rt.alg.isSome rt.kid.isSome rt.ops.isSome rt.use.isSome 4 = wantF rt.alg.isSome rt.kid.isSome rt.ops.isSome rt.use.isSome 3 ++ (if rt.alg.isSome then [nAlg] else []) from rfl, show (if rt.alg.isSome then [nAlg] else []) = ([] : List ByteArray) from by rw [← HBB.out]; rfl, List.append_nil]; exact h), HN4, HX, H5, HB⟩
            | true =>
              go_wp2_with (at_builtin; go_loud (refine own_app2 HR.out H5.out.size HIS.out (by have := HWN.out.1; have := HWN.out.2; omega) rfl _ _ rfl rfl rfl ?_; intro vA vc w8 hown hbl hg8; have HF := Lib.hid (And.intro hown (And.intro hbl hg8)); clear hown hbl hg8))
              go_roundg 0
              case measure => omega
              case rel =>
                obtain ⟨q1, q2, q3⟩ := HF.out
                exact ⟨4, vA, Wn + 1, vc, rfl, by go_num, rfl, Lib.hid (by unfold NmR; rw [show wantF rt.alg.isSome rt.kid.isSome rt.ops.isSome rt.use.isSome 4 = wantF rt.alg.isSome rt.kid.isSome rt.ops.isSome rt.use.isSome 3 ++ (if rt.alg.isSome then [nAlg] else []) from rfl, show (if rt.alg.isSome then [nAlg] else []) = ([nAlg] : List ByteArray) from by rw [← HBB.out]; rfl, List.map_append]; exact q1), Lib.hid (HN4.out.grown q3 (HR.out.ne HN4.out)), Lib.hid (HX.out.below q2 HWX.out), Lib.hid (H5.out.trans q2), Lib.hid (HB.out.trans (q2.mono H45.out))⟩
        · obtain rfl : i = 4 := by omega
          have hii : ¬ (((4 : Nat) : Int) < 4) := by omega
          have hwl := want_len rt.alg.isSome rt.kid.isSome rt.ops.isSome rt.use.isSome 4 (by omega)
          have hwp := want_pos rt.alg.isSome rt.kid.isSome rt.ops.isSome rt.use.isSome
          have HSO := Lib.hid (SortOwn_calls HR.out (by rw [hwn]) (by omega) (by omega) H5.out.size)
          have HWN := Lib.hid (And.intro hwn (And.intro hwl hwp))
          clear hwn hwl hwp
          have HSZ := Lib.hid (nmF_len rt.alg.isSome rt.kid.isSome rt.ops.isSome rt.use.isSome)
          go_wp2_with (first
            | (go_at_call 19; go_loud ((with_reducible refine Calls.mono HSO.out ?_); rintro e w8 ⟨rfl, ho, hb⟩; have hb58 := H5.out.trans hb; have hX8 := HX.out.below hb HWX.out; have x1 : w8.cell? ⟨w4.heap.size, 13, none⟩ = some (.slice NA rt.names.length Nc) := (by rw [hX8.cell]; rfl); have hnm8 := own_keep (w' := w8) HNM.out (fun j cs hb' => hb'.below hb58 hb'.lt); have hEQ := EqualT_calls (c := Nc) (c2 := Wc) (Reads.of_own hnm8) (Reads.of_own ho) (by have := HSZ.out; show rt.names.length ≤ 100000; unfold FT.names; omega); rw [show srt rt.names = srt (wantF rt.alg.isSome rt.kid.isSome rt.ops.isSome rt.use.isSome 4) from (by rw [want_same]; rfl), decide_eq_true rfl] at hEQ; have HEQ := Lib.hid hEQ; have HB8 := Lib.hid (HB.out.trans (hb.mono H45.out)); clear ho hb hb58 hX8 hnm8 hEQ))
            | (go_at_call 14; go_loud ((with_reducible refine Calls.mono HEQ.out ?_); rintro e w9 ⟨rfl, hb⟩; have HB9 := Lib.hid (HB8.out.trans (hb.mono HB8.out.size)); have HLive := Lib.hid (fieldsLive_calls w9); clear hb))
            | (go_at_call 10; go_loud ((with_reducible refine Calls.mono HLive.out ?_); rintro e w10 ⟨rfl, hb⟩; have HB10 := Lib.hid (HB9.out.trans (hb.mono HB9.out.size)); clear hb)))
          go_ret
          exact ⟨rfl, HB10.out⟩
end
end Go.Proofs.YtlbnemnadegapaaDoor.Kf
