/- The walk of the law FnKeyFields; printed by gen_kflaw3.py; no condition. -/
import Derived.Test.YtlbnemnadegapaaDoorLawKfNames
import Derived.Deep.Cut
import Derived.BigRegion
import Derived.Deep.CutRange
import Derived.Deep.CutBlock
import Derived.Deep.DeepCutAuto
set_option linter.unusedVariables false
set_option linter.unusedSimpArgs false
namespace Go.Proofs.YtlbnemnadegapaaDoor.Kf
open Go.RowKit Go.Proofs.YtlbnemnadegapaaDoor.K Go.Proofs.YtlbnemnadegapaaDoor.Nm Go.Proofs.YtlbnemnadegapaaDoor.Ky
theorem stp_D (t : FT) (a b : FS) (h : fsD a = fsD b) : stp t a = stp t b := by
  obtain ⟨A, n, c, k, x, l⟩ := a
  obtain ⟨A', n', c', k', x', l'⟩ := b
  simp only [fsD, FD.mk.injEq] at h
  obtain ⟨rfl, rfl, rfl⟩ := h
  rfl
theorem endT_D : ∀ (a b : List FS) (t : FT), a.map fsD = b.map fsD → endT t a = endT t b
  | [], [], t, _ => rfl
  | [], y :: s, t, h => by cases h
  | x :: r, [], t, h => by cases h
  | x :: r, y :: s, t, h => by
    rw [List.map_cons, List.map_cons] at h
    injection h with h1 h2
    show endT (stp t x) r = endT (stp t y) s
    rw [stp_D t x y h1]
    exact endT_D r s _ h2
theorem endT_ob : ∀ {ss : List FS} {t : FT}, (∀ s ∈ ss, s.l.length ≤ 1000) → OB t → OB (endT t ss)
  | [], t, _, h => h
  | s :: r, t, hs, h => endT_ob (ss := r) (t := stp t s) (fun x hx => hs x (by simp [hx])) (stp_ob h (hs s (by simp)))
theorem mem_srt {x : ByteArray} {l : List ByteArray} : x ∈ srt l ↔ x ∈ l := by
  unfold srt sortL
  rw [List.mem_map]
  constructor
  · rintro ⟨b, hb, rfl⟩
    rw [List.mem_mergeSort, List.mem_map] at hb
    obtain ⟨a, ha, rfl⟩ := hb
    simpa [byL] using ha
  · intro h
    exact ⟨byL x, by rw [List.mem_mergeSort]; exact List.mem_map_of_mem h, by simp [byL]⟩
theorem nm_kid (a k o u : Bool) : (⟨#[107, 105, 100]⟩ : ByteArray) ∈ nmF a k o u ↔ k = true := by cases a <;> cases k <;> cases o <;> cases u <;> simp [nmF]
theorem nm_use (a k o u : Bool) : (⟨#[117, 115, 101]⟩ : ByteArray) ∈ nmF a k o u ↔ u = true := by cases a <;> cases k <;> cases o <;> cases u <;> simp [nmF]
theorem nm_ops (a k o u : Bool) : (⟨#[107, 101, 121, 95, 111, 112, 115]⟩ : ByteArray) ∈ nmF a k o u ↔ o = true := by cases a <;> cases k <;> cases o <;> cases u <;> simp [nmF]
theorem nm_alg (a k o u : Bool) : (⟨#[97, 108, 103]⟩ : ByteArray) ∈ nmF a k o u ↔ a = true := by cases a <;> cases k <;> cases o <;> cases u <;> simp [nmF]
theorem bool_eq {a b : Bool} (h : a = true ↔ b = true) : a = b := by cases a <;> cases b <;> simp at h ⊢
theorem mvD_kind (m : FM) : (mvD m).kind ≤ 4 := by
  unfold mvD
  split
  · exact Nat.zero_le _
  split
  · show 1 ≤ 4; omega
  split
  · show 2 ≤ 4; omega
  split
  · show 3 ≤ 4; omega
  · show 4 ≤ 4; omega
/-- What the law knows of the fields by now. -/
def nowA (t : FT) (A : Option Addr) (n c : Nat) : Array Value := #[.bool false, .string (t.kid.getD ⟨#[]⟩), .string (t.use.getD ⟨#[]⟩), .string (t.alg.getD ⟨#[]⟩), .slice A n c, .bool t.kid.isSome, .bool t.use.isSome, .bool t.ops.isSome, .bool t.alg.isSome, .bool false, .bool false, .bool false, .bool false, .slice none 0 0, .slice none 0 0]
def NowR (N : Nat) (w5 w7 : World) (t : FT) (wr : World) : Prop := ∃ A n c, Blk wr N 38 (nowA t A n c) ∧ KL w7 0 9 (.slice A n c) ((t.ops.getD []).map Value.string) ∧ Fr (· = 38) w7 wr ∧ Below N w5 wr
theorem now_two {N : Nat} {w5 w7 wa : World} {t : FT} {A : Option Addr} {n c : Nat} (h : Blk wa N 38 (nowA t A n c)) (hfr : Fr (· = 38) w7 wa) (hb : Below N w5 wa) (i j : Nat) (u v : Value) (t2 : FT) (A2 : Option Addr) (n2 c2 : Nat)
    (hset : ((nowA t A n c).setIfInBounds i u).setIfInBounds j v = nowA t2 A2 n2 c2) (hkl : KL w7 0 9 (.slice A2 n2 c2) ((t2.ops.getD []).map Value.string)) : NowR N w5 w7 t2 ((wa.setCell ⟨N, i, none⟩ u).setCell ⟨N, j, none⟩ v) := by
  have h2 := (h.set_ i u).set_ j v
  rw [hset] at h2
  exact ⟨A2, n2, c2, h2, hkl, (hfr.trans (Fr.setCell (bad := (· = 38)) h rfl u)).trans (Fr.setCell (bad := (· = 38)) (h.set_ i u) rfl v), (hb.setCell (p := ⟨N, i, none⟩) (Nat.le_refl _) u).setCell (p := ⟨N, j, none⟩) (Nat.le_refl _) v⟩
theorem NowR.drew {N : Nat} {w5 w7 wr : World} {t : FT} (h : NowR N w5 w7 t wr) : NowR N w5 w7 t wr.drew := by
  obtain ⟨A, n, c, b1, b2, b3, b4⟩ := h
  exact ⟨A, n, c, b1, b2, b3.trans (Fr.of_below (Below.refl _ _).drew), b4.drew⟩
theorem NowR.below {N : Nat} {w5 w7 wr wr' : World} {t : FT} (h : NowR N w5 w7 t wr) (hb : Below wr.heap.size wr wr') : NowR N w5 w7 t wr' := by
  obtain ⟨A, n, c, b1, b2, b3, b4⟩ := h
  exact ⟨A, n, c, b1.below hb b1.lt, b2, b3.trans (Fr.of_below hb), b4.trans (hb.mono (Nat.le_of_lt b1.lt))⟩
section
variable {w w' : World}
set_option maxRecDepth 100000 in
set_option maxHeartbeats 8000000 in
theorem FnKeyFields_calls (w : World) (A0 : Option Addr) (n c0 : Nat) (l : List UInt8) (h0 : Reads w 1 A0 n (bys l)) (A1 : Option Addr) (n1 c1 : Nat) (ms : List FM) (h1 : FML w A1 n1 ms) :
    Calls Tryd.prog 3 #[.slice A0 n c0, .slice A1 n1 c1] w fun e w' => e = .returned (.bool true) ∧ Below w.heap.size w w' := by
  by_cases g0 : 2147483647 < n
  · have k0 : (2147483647 : Int) < (n : Int) := by omega
    go_enter Tryd.func3, Tryd.ntmps3
    go_wp2
    go_ret
    exact ⟨rfl, Below.refl _ _⟩
  have k0 : ¬ (2147483647 : Int) < (n : Int) := by omega
  have HZ := Lib.hid (zzFits12_calls w A1 n1 c1 ms h1)
  have HL := Lib.hid h0
  have HM := Lib.hid h1
  clear h0 h1 g0
  go_enter Tryd.func3, Tryd.ntmps3
  go_wp2_with fail
  refine HZ.out.mono ?_
  rintro e w1 ⟨⟨r, rfl, hr⟩, hb1⟩
  have HB1 := Lib.hid hb1
  clear HZ
  cases r with
  | false =>
    go_wp2_with fail
    go_ret
    exact ⟨rfl, HB1.out⟩
  | true =>
    have hn1 : n1 ≤ 2147483647 := hr rfl
    have hM1 := HM.out.below hb1 (Nat.le_refl _)
    have HCF := Lib.hid (contains_9 w1 A1 n1 c1 ms hM1 hn1)
    have HM1 := Lib.hid hM1
    clear hM1 hr hb1 HM
    by_cases e0 : n = 0
    · have kz : ((n : Int) == 0) = true := by simp [e0]
      clear e0
      have HLive := Lib.hid (fieldsLive_calls w1)
      go_wp2_with (first
        | (go_at_call 10; (with_reducible refine Calls.mono HLive.out ?_); rintro e w3 ⟨rfl, hb3⟩; have HB3 := Lib.hid (HB1.out.trans (hb3.mono HB1.out.size)); clear hb3))
      go_ret
      exact ⟨rfl, HB3.out⟩
    have kz : ((n : Int) == 0) = false := by rw [beq_eq_false_iff_ne]; omega
    by_cases e1 : 60 < n
    · have k1 : (60 : Int) < (n : Int) := by omega
      have HLive := Lib.hid (fieldsLive_calls w1)
      go_wp2_with (first
        | (go_at_call 10; (with_reducible refine Calls.mono HLive.out ?_); rintro e w3 ⟨rfl, hb3⟩; have HB3 := Lib.hid (HB1.out.trans (hb3.mono HB1.out.size)); clear hb3))
      go_ret
      exact ⟨rfl, HB3.out⟩
    have k1 : ¬ (60 : Int) < (n : Int) := by omega
    by_cases e2 : 30 < n1
    · have k2 : (30 : Int) < (n1 : Int) := by omega
      have HLive := Lib.hid (fieldsLive_calls w1)
      go_wp2_with (first
        | (go_at_call 10; (with_reducible refine Calls.mono HLive.out ?_); rintro e w3 ⟨rfl, hb3⟩; have HB3 := Lib.hid (HB1.out.trans (hb3.mono HB1.out.size)); clear hb3))
      go_ret
      exact ⟨rfl, HB3.out⟩
    have k2 : ¬ (30 : Int) < (n1 : Int) := by omega
    go_upto_region 3 with (fail)
    go_wp2_with fail
    refine HCF.out.mono ?_
    rintro e w2 ⟨⟨r, rfl, hr⟩, hb2⟩
    have HB2 := Lib.hid (HB1.out.trans (hb2.mono HB1.out.size))
    clear HCF
    cases r with
    | true =>
      have HLive := Lib.hid (fieldsLive_calls w2)
      go_wp2_with (first
        | (go_at_call 10; (with_reducible refine Calls.mono HLive.out ?_); rintro e w3 ⟨rfl, hb3⟩; have HB3 := Lib.hid (HB2.out.trans (hb3.mono HB2.out.size)); clear hb3))
      go_ret
      exact ⟨rfl, HB3.out⟩
    | false =>
      have hm8 := hr rfl
      have hM2 := HM1.out.below hb2 (Nat.le_refl _)
      have hm8' : ∀ m ∈ ms, m.ops.length ≤ 8 := fun m hm => by have h1 := (hM2.2 m hm).2.1; rw [bys_length] at h1; have := hm8 m hm; omega
      have hn0 : 0 < n := by omega
      obtain ⟨ad, rfl, _⟩ := HL.out.2 hn0
      have hll : l.length = n := by have := HL.out.1; rw [bys_length] at this; omega
      have HR2 := Lib.hid (HL.out.below HB2.out (Nat.le_refl _))
      have HM2 := Lib.hid (And.intro hM2 hm8')
      have HLL := Lib.hid hll
      have HML := Lib.hid hM2.len
      have HCB := Lib.hid (bytesClone_calls (c := c0) HR2.out (by omega))
      clear hm8 hm8' hM2 hr hb2 hll HM1 HL
      go_upto_region 6 with (first
        | (go_at_call 12; go_loud ((with_reducible refine Calls.mono HCB.out ?_); rintro e w3 ⟨A2, c2, rfl, ho2, hb2⟩; have HSt := Lib.hid (fieldSteps_calls w3 A1 n1 c1 ms (HM2.out.1.below hb2 (Nat.le_refl _)) (by omega) HM2.out.2); have H3 := Lib.hid (And.intro ho2 hb2); clear ho2 hb2))
        | (go_at_call 13; go_loud ((with_reducible refine Calls.mono HSt.out ?_); rintro e w4 ⟨A4, c4, ss, rfl, hs⟩; have hb4 := hs.2.2.2; obtain ⟨hf, hz⟩ := hs.fsl; obtain ⟨g2, cap2, hv2, _, _⟩ := H3.out.1.form hn0; injection hv2 with hv2 hv4 hv3; subst hv2; subst hv3; clear hv4; have HE := Lib.hid (FieldRun_calls (w := w4) ⟨g2, 0, none⟩ n c2 l HLL.out ((Reads.of_own H3.out.1).below hb4 (Nat.le_refl _)) hn0 (by omega) A4 n1 c4 ss hf (by rw [← hf.len]; omega)); have H4 := Lib.hid (And.intro hs.2.1 (And.intro hf.len (H3.out.2.trans (hb4.mono H3.out.2.size)))); clear hs hf hz hb4))
        | (go_at_call 11; go_loud ((with_reducible refine Calls.mono HE.out ?_); rintro e w5 ⟨v, rfl, hO, hb5⟩; obtain ⟨vA, vc, hv, hSN⟩ := hO.read; subst hv; have hlen : (runT t0 ss).length = n1 := (by rw [runT_len, ← H4.out.2.1]); rw [hlen]; have H5 := Lib.hid (And.intro hSN (And.intro hlen (H4.out.2.2.trans (hb5.mono H4.out.2.2.size)))); clear hO hb5 hSN hlen)))
      obtain ⟨N, hN⟩ : ∃ N, N = w5.heap.size := ⟨_, rfl⟩
      obtain ⟨w6, hw6⟩ : ∃ w6, w6 = w5.alloc (.cells #[.bool false, .string ⟨#[]⟩, .string ⟨#[]⟩, .string ⟨#[]⟩, .slice none 0 0, .bool false, .bool false, .bool false, .bool false, .bool false, .bool false, .bool false, .bool false, .slice none 0 0, .slice none 0 0] 38) := ⟨_, rfl⟩
      have hb6 : Below w5.heap.size w5 w6 := by rw [hw6]; exact below_alloc' (Below.refl _ _) _
      have hX6 : Blk w6 N 38 #[.bool false, .string ⟨#[]⟩, .string ⟨#[]⟩, .string ⟨#[]⟩, .slice none 0 0, .bool false, .bool false, .bool false, .bool false, .bool false, .bool false, .bool false, .bool false, .slice none 0 0, .slice none 0 0] := by rw [hw6, hN]; exact Blk.new w5 _ _
      have h26 := (H5.out.2.2.trans (hb6.mono H5.out.2.2.size))
      have HSt2 := Lib.hid (fieldSteps_calls w6 A1 n1 c1 ms (HM2.out.1.below h26 (Nat.le_refl _)) (by omega) HM2.out.2)
      have H6 := Lib.hid (And.intro hb6 (And.intro hX6 (And.intro hN (HB2.out.trans (h26.mono HB2.out.size)))))
      have hnn : ((n1 : Int) == (n1 : Int)) = true := by simp
      go_upto_region 9 with (fail)
      rw [← hw6, ← hN]
      clear hw6 hb6 hX6 hN h26
      go_upto_region 10 with (go_at_call 13; go_loud ((with_reducible refine Calls.mono HSt2.out ?_); rintro e w7 ⟨A7, c7, ss2, rfl, hs⟩; have H7 := Lib.hid hs; clear hs))
      have HNOW0 : Hid (NowR N w5 w7 (endT t0 (ss2.take 0)) w7) := Lib.hid ⟨none, 0, 0, H6.out.2.1.below H7.out.2.2.2 H6.out.2.1.lt, KL.nil _ _ _, Fr.refl _, by rw [H6.out.2.2.1]; exact H6.out.1.trans (H7.out.2.2.2.mono H6.out.1.size)⟩
      go_wp2_with fail
      go_loopg [51] n1 (fun q u wr => ∃ i : Nat, q + i = n1 ∧ u = .int .i64 (i : Nat) ∧ Hid (NowR N w5 w7 (endT t0 (ss2.take i)) wr))
      case atStart => exact ⟨0, rfl, rfl, HNOW0⟩
      case round =>
        clear HNOW0
        obtain ⟨i, hq, rfl, HNW⟩ := hrel
        by_cases hi : i < n1
        · have hii : (i : Int) < (n1 : Int) := by omega
          obtain ⟨LA, ln, lc, b1, b2, b3, b4⟩ := HNW.out
          have hss : n1 = ss2.length := by have := congrArg List.length H7.out.2.1; simp at this; have h2 := HML.out; omega
          have his : i < ss2.length := by omega
          have hF7 : FSL wr A7 n1 ss2 := ⟨Reads.of_own (own_keep H7.out.1 (fun j cs hb => b3.blk hb (by decide))), fun s hs => ⟨(KL.reads (KL.fr (H7.out.2.2.1 s hs).1 b3 (by decide))).1, (H7.out.2.2.1 s hs).2⟩⟩
          obtain ⟨sad, hA, k0, k1, k2⟩ := hF7.at_ his
          subst hA
          obtain ⟨s, hs⟩ : ∃ s, s = ss2[i] := ⟨_, rfl⟩
          have hsm : s ∈ ss2 := by rw [hs]; exact List.getElem_mem _
          obtain ⟨m1, m2, m3⟩ := H7.out.2.2.1 s hsm
          have hsi : ss2[i]? = some s := by rw [List.getElem?_eq_getElem his, hs]
          have hk4 : s.kind ≤ 4 := by
            have h1 := congrArg (fun l => l[i]?) H7.out.2.1
            simp only [List.getElem?_map, hsi, Option.map_some] at h1
            cases hmi : (ms.take n1)[i]? with
            | none => rw [hmi] at h1; cases h1
            | some m =>
              rw [hmi] at h1
              injection h1 with h1
              have h2 := mvD_kind m
              rw [← h1] at h2
              exact h2
          rw [← hs] at k0 k1 k2
          obtain ⟨t, ht⟩ : ∃ t, t = endT t0 (ss2.take i) := ⟨_, rfl⟩
          have hts : endT t0 (ss2.take (i + 1)) = stp t s := by rw [ht]; exact endT_snoc hsi
          rw [← ht] at b1 b2
          obtain ⟨wa, hwa⟩ : ∃ wa, wa = wr.alloc (.cells #[.int .i64 (s.kind : Nat), .string s.text, .slice s.A s.n s.c] 40) := ⟨_, rfl⟩
          have hba : Below wr.heap.size wr wa := by rw [hwa]; exact below_alloc' (Below.refl _ _) _
          have hsa : Blk wa wr.heap.size 40 #[.int .i64 (s.kind : Nat), .string s.text, .slice s.A s.n s.c] := by rw [hwa]; exact Blk.new wr _ _
          have q0 : wa.cell? ⟨wr.heap.size, 0, none⟩ = some (.int .i64 (s.kind : Nat)) := by rw [hsa.cell]; rfl
          have q1 : wa.cell? ⟨wr.heap.size, 1, none⟩ = some (.string s.text) := by rw [hsa.cell]; rfl
          have q2 : wa.cell? ⟨wr.heap.size, 2, none⟩ = some (.slice s.A s.n s.c) := by rw [hsa.cell]; rfl
          have hNa := b1.below hba b1.lt
          have hfra : Fr (· = 38) w7 wa := b3.trans (Fr.of_below hba)
          have hbwa : Below N w5 wa := b4.trans (hba.mono (Nat.le_of_lt b1.lt))
          have HA := Lib.hid (And.intro hNa (And.intro b2 (And.intro hfra hbwa)))
          have HS := Lib.hid (And.intro m1 (And.intro m2 (And.intro m3 hk4)))
          have HTS := Lib.hid (And.intro hts hsi)
          have HSB := Lib.hid hsa
          have HSS := Lib.hid hss
          clear b1 b2 b3 b4 hF7 hs hsm m1 m2 m3 hsi hk4 ht hts hba hsa hNa hfra hbwa his hss HNW
          go_upto_region 12 with (fail)
          rw [← hwa]
          clear hwa k0 k1 k2
          go_upto_block 2 with (fail)
          go_cut [] (fun wx => Hid (NowR N w5 w7 (stp t s) wx))
          case first =>
            obtain ⟨sA, sn, sc, k, x, ls⟩ := s
            simp only at q0 q1 q2
            obtain ⟨m1, m2, m3, m4⟩ := HS.out
            rcases m2 with hk | hk | ⟨hk, hl, hn9⟩ | ⟨hk, hi9⟩ | ⟨hk, ht9⟩ | hk
            · obtain rfl : k = 0 := hk
              have x1 : wa.cell? ⟨N, 5, none⟩ = some (.bool t.kid.isSome) := by rw [HA.out.1.cell]; rfl
              have x2 : wa.cell? ⟨N, 1, none⟩ = some (.string (t.kid.getD ⟨#[]⟩)) := by rw [HA.out.1.cell]; rfl
              have f1 := HA.out.1.frozen 5
              have f2 := HA.out.1.frozen 1
              go_upto_region 14 with (fail)
              go_region
              go_wp2_with fail
              go_meet
              exact Lib.hid (NowR.drew (now_two HA.out.1 HA.out.2.2.1 HA.out.2.2.2 5 1 _ _ (stp t ⟨sA, sn, sc, 0, x, ls⟩) LA ln lc rfl HA.out.2.1))
            · obtain rfl : k = 1 := hk
              have x1 : wa.cell? ⟨N, 6, none⟩ = some (.bool t.use.isSome) := by rw [HA.out.1.cell]; rfl
              have x2 : wa.cell? ⟨N, 2, none⟩ = some (.string (t.use.getD ⟨#[]⟩)) := by rw [HA.out.1.cell]; rfl
              have f1 := HA.out.1.frozen 6
              have f2 := HA.out.1.frozen 2
              go_upto_region 16 with (fail)
              go_region
              go_wp2_with fail
              go_meet
              exact Lib.hid (NowR.drew (now_two HA.out.1 HA.out.2.2.1 HA.out.2.2.2 6 2 _ _ (stp t ⟨sA, sn, sc, 1, x, ls⟩) LA ln lc rfl HA.out.2.1))
            · obtain rfl : k = 2 := hk
              have x1 : wa.cell? ⟨N, 7, none⟩ = some (.bool t.ops.isSome) := by rw [HA.out.1.cell]; rfl
              have x2 : wa.cell? ⟨N, 4, none⟩ = some (.slice LA ln lc) := by rw [HA.out.1.cell]; rfl
              have f1 := HA.out.1.frozen 7
              have f2 := HA.out.1.frozen 4
              go_upto_region 18 with (fail)
              go_region
              go_wp2_with fail
              go_meet
              exact Lib.hid (NowR.drew (now_two HA.out.1 HA.out.2.2.1 HA.out.2.2.2 7 4 _ _ (stp t ⟨sA, sn, sc, 2, x, ls⟩) sA sn sc rfl m1))
            · obtain rfl : k = 3 := hk
              have x1 : wa.cell? ⟨N, 8, none⟩ = some (.bool t.alg.isSome) := by rw [HA.out.1.cell]; rfl
              have x2 : wa.cell? ⟨N, 3, none⟩ = some (.string (t.alg.getD ⟨#[]⟩)) := by rw [HA.out.1.cell]; rfl
              have f1 := HA.out.1.frozen 8
              have f2 := HA.out.1.frozen 3
              go_upto_region 20 with (fail)
              go_region
              go_wp2_with fail
              go_meet
              exact Lib.hid (NowR.drew (now_two HA.out.1 HA.out.2.2.1 HA.out.2.2.2 8 3 _ _ (stp t ⟨sA, sn, sc, 3, x, ls⟩) LA ln lc rfl HA.out.2.1))
            · obtain rfl : k = 4 := hk
              have hd : nUse ≠ nKid ∧ nOps ≠ nKid ∧ nOps ≠ nUse ∧ nAlg ≠ nKid ∧ nAlg ≠ nUse ∧ nAlg ≠ nOps := by decide
              rcases ht9 with rfl | rfl | rfl | rfl
              · have HST := Lib.hid (show stp t ⟨sA, sn, sc, 4, nKid, ls⟩ = { t with kid := none } from by unfold stp; simp [hd])
                clear hd
                unfold nKid at q1
                have x1 : wa.cell? ⟨N, 5, none⟩ = some (.bool t.kid.isSome) := by rw [HA.out.1.cell]; rfl
                have x2 : wa.cell? ⟨N, 1, none⟩ = some (.string (t.kid.getD ⟨#[]⟩)) := by rw [HA.out.1.cell]; rfl
                have f1 := HA.out.1.frozen 5
                have f2 := HA.out.1.frozen 1
                go_wp2_with fail
                go_meet
                rw [HST.out]
                exact Lib.hid (now_two HA.out.1 HA.out.2.2.1 HA.out.2.2.2 5 1 _ _ { t with kid := none } LA ln lc rfl HA.out.2.1)
              · have HST := Lib.hid (show stp t ⟨sA, sn, sc, 4, nUse, ls⟩ = { t with use := none } from by unfold stp; simp [hd])
                clear hd
                unfold nUse at q1
                have x1 : wa.cell? ⟨N, 6, none⟩ = some (.bool t.use.isSome) := by rw [HA.out.1.cell]; rfl
                have x2 : wa.cell? ⟨N, 2, none⟩ = some (.string (t.use.getD ⟨#[]⟩)) := by rw [HA.out.1.cell]; rfl
                have f1 := HA.out.1.frozen 6
                have f2 := HA.out.1.frozen 2
                go_wp2_with fail
                go_meet
                rw [HST.out]
                exact Lib.hid (now_two HA.out.1 HA.out.2.2.1 HA.out.2.2.2 6 2 _ _ { t with use := none } LA ln lc rfl HA.out.2.1)
              · have HST := Lib.hid (show stp t ⟨sA, sn, sc, 4, nOps, ls⟩ = { t with ops := none } from by unfold stp; simp [hd])
                clear hd
                unfold nOps at q1
                have x1 : wa.cell? ⟨N, 7, none⟩ = some (.bool t.ops.isSome) := by rw [HA.out.1.cell]; rfl
                have x2 : wa.cell? ⟨N, 4, none⟩ = some (.slice LA ln lc) := by rw [HA.out.1.cell]; rfl
                have f1 := HA.out.1.frozen 7
                have f2 := HA.out.1.frozen 4
                go_wp2_with fail
                go_meet
                rw [HST.out]
                exact Lib.hid (now_two HA.out.1 HA.out.2.2.1 HA.out.2.2.2 7 4 _ _ { t with ops := none } none 0 0 rfl (KL.nil _ _ _))
              · have HST := Lib.hid (show stp t ⟨sA, sn, sc, 4, nAlg, ls⟩ = { t with alg := none } from by unfold stp; simp [hd])
                clear hd
                unfold nAlg at q1
                have x1 : wa.cell? ⟨N, 8, none⟩ = some (.bool t.alg.isSome) := by rw [HA.out.1.cell]; rfl
                have x2 : wa.cell? ⟨N, 3, none⟩ = some (.string (t.alg.getD ⟨#[]⟩)) := by rw [HA.out.1.cell]; rfl
                have f1 := HA.out.1.frozen 8
                have f2 := HA.out.1.frozen 3
                go_wp2_with fail
                go_meet
                rw [HST.out]
                exact Lib.hid (now_two HA.out.1 HA.out.2.2.1 HA.out.2.2.2 8 3 _ _ { t with alg := none } LA ln lc rfl HA.out.2.1)
            · simp only at m4 hk; omega
          case rest =>
            obtain ⟨LA2, ln2, lc2, b1, b2, b3, b4⟩ := hcut.out
            have hsl : (runT t0 ss).length = n1 := H5.out.2.1
            obtain ⟨ad5, r, hA5, hrt, hrow, hro, hrn, hrc⟩ := (H5.out.1.below b4 (by rw [H6.out.2.2.1]; exact Nat.le_refl _)).at_ (j := i) (by omega)
            subst hA5
            obtain ⟨rt, OA, Oc, NA, Nc, CA, Cc⟩ := r
            have hre : rt = stp t s := by
              have h1 := runT_at (t := t0) (ss := ss) (j := i) (by rw [← runT_len ss t0]; omega)
              rw [List.getElem?_eq_getElem (by omega)] at h1
              have h2 : rt = endT t0 (ss.take (i + 1)) := Eq.trans hrt (Option.some.inj h1)
              rw [h2, endT_D (ss.take (i + 1)) (ss2.take (i + 1)) t0 (by rw [List.map_take, List.map_take, H4.out.1, H7.out.2.1])]
              exact HTS.out.1
            obtain ⟨t', ht'⟩ : ∃ t', t' = stp t s := ⟨_, rfl⟩
            rw [← ht'] at b1 b2 hre
            subst hre
            have HTT := Lib.hid ht'
            clear ht' hrt
            simp only [frc, seenC] at hrow
            simp only at hro hrn hrc
            unfold nowA at b1
            obtain ⟨nl, hnl⟩ : ∃ nl, nl = rt.names.length := ⟨_, rfl⟩
            obtain ⟨nmL, hnm⟩ : ∃ nm, nm = srt rt.names := ⟨_, rfl⟩
            rw [← hnl] at hrow hrn
            rw [← hnm] at hrn
            unfold FT.names at hnl hnm
            obtain ⟨kB, hkB⟩ : ∃ b, b = rt.kid.isSome := ⟨_, rfl⟩
            obtain ⟨uB, huB⟩ : ∃ b, b = rt.use.isSome := ⟨_, rfl⟩
            obtain ⟨oB, hoB⟩ : ∃ b, b = rt.ops.isSome := ⟨_, rfl⟩
            obtain ⟨aB, haB⟩ : ∃ b, b = rt.alg.isSome := ⟨_, rfl⟩
            obtain ⟨kS, hkS⟩ : ∃ b, b = rt.kid.getD ⟨#[]⟩ := ⟨_, rfl⟩
            obtain ⟨uS, huS⟩ : ∃ b, b = rt.use.getD ⟨#[]⟩ := ⟨_, rfl⟩
            obtain ⟨aS, haS⟩ : ∃ b, b = rt.alg.getD ⟨#[]⟩ := ⟨_, rfl⟩
            obtain ⟨oL, hoL⟩ : ∃ b, b = rt.ops.getD [] := ⟨_, rfl⟩
            rw [← hkB, ← huB, ← hoB, ← haB, ← hkS, ← huS, ← haS, ← hoL] at hrow
            rw [← hkB, ← huB, ← hoB, ← haB, ← hkS, ← huS, ← haS] at b1
            rw [← hkB, ← huB, ← hoB, ← haB] at hnm hnl
            rw [← hoL] at b2 hro
            have hln2 : ln2 = oL.length := by have := (KL.reads b2).2.1; simpa using this
            subst hln2
            have HRC := Lib.hid (And.intro hrow.2 hrow.1)
            have HNMS := Lib.hid (And.intro hnl hnm)
            have hb5c : Below N w5 wc := b4
            obtain ⟨wb, hwb⟩ : ∃ wb, wb = wc.alloc (.cells #[.bool true, .string kS, .string uS, .string aS, .slice OA oL.length Oc, .bool kB, .bool uB, .bool oB, .bool aB, .bool kB, .bool uB, .bool oB, .bool aB, .slice NA nl Nc, .slice CA n Cc] 38) := ⟨_, rfl⟩
            have hbb : Below wc.heap.size wc wb := by rw [hwb]; exact below_alloc' (Below.refl _ _) _
            have hXb : Blk wb wc.heap.size 38 #[.bool true, .string kS, .string uS, .string aS, .slice OA oL.length Oc, .bool kB, .bool uB, .bool oB, .bool aB, .bool kB, .bool uB, .bool oB, .bool aB, .slice NA nl Nc, .slice CA n Cc] := by rw [hwb]; exact Blk.new wc _ _
            have hNb := b1.below hbb b1.lt
            have y0 : wc.cell? (ad5.add (i * 15)) = some (.bool true) := HRC.out.2
            have y1 : wc.cell? ⟨(ad5.add (i * 15)).block, (ad5.add (i * 15)).off + 1, none⟩ = some (.string kS) := HRC.out.1 1 (by omega) (by omega)
            have y2 : wc.cell? ⟨(ad5.add (i * 15)).block, (ad5.add (i * 15)).off + 2, none⟩ = some (.string uS) := HRC.out.1 2 (by omega) (by omega)
            have y3 : wc.cell? ⟨(ad5.add (i * 15)).block, (ad5.add (i * 15)).off + 3, none⟩ = some (.string aS) := HRC.out.1 3 (by omega) (by omega)
            have y4 : wc.cell? ⟨(ad5.add (i * 15)).block, (ad5.add (i * 15)).off + 4, none⟩ = some (.slice OA oL.length Oc) := HRC.out.1 4 (by omega) (by omega)
            have y5 : wc.cell? ⟨(ad5.add (i * 15)).block, (ad5.add (i * 15)).off + 5, none⟩ = some (.bool kB) := HRC.out.1 5 (by omega) (by omega)
            have y6 : wc.cell? ⟨(ad5.add (i * 15)).block, (ad5.add (i * 15)).off + 6, none⟩ = some (.bool uB) := HRC.out.1 6 (by omega) (by omega)
            have y7 : wc.cell? ⟨(ad5.add (i * 15)).block, (ad5.add (i * 15)).off + 7, none⟩ = some (.bool oB) := HRC.out.1 7 (by omega) (by omega)
            have y8 : wc.cell? ⟨(ad5.add (i * 15)).block, (ad5.add (i * 15)).off + 8, none⟩ = some (.bool aB) := HRC.out.1 8 (by omega) (by omega)
            have y9 : wc.cell? ⟨(ad5.add (i * 15)).block, (ad5.add (i * 15)).off + 9, none⟩ = some (.bool kB) := HRC.out.1 9 (by omega) (by omega)
            have y10 : wc.cell? ⟨(ad5.add (i * 15)).block, (ad5.add (i * 15)).off + 10, none⟩ = some (.bool uB) := HRC.out.1 10 (by omega) (by omega)
            have y11 : wc.cell? ⟨(ad5.add (i * 15)).block, (ad5.add (i * 15)).off + 11, none⟩ = some (.bool oB) := HRC.out.1 11 (by omega) (by omega)
            have y12 : wc.cell? ⟨(ad5.add (i * 15)).block, (ad5.add (i * 15)).off + 12, none⟩ = some (.bool aB) := HRC.out.1 12 (by omega) (by omega)
            have y13 : wc.cell? ⟨(ad5.add (i * 15)).block, (ad5.add (i * 15)).off + 13, none⟩ = some (.slice NA nl Nc) := HRC.out.1 13 (by omega) (by omega)
            have y14 : wc.cell? ⟨(ad5.add (i * 15)).block, (ad5.add (i * 15)).off + 14, none⟩ = some (.slice CA n Cc) := HRC.out.1 14 (by omega) (by omega)
            have x0 : wb.cell? ⟨wc.heap.size, 0, none⟩ = some (.bool true) := by rw [hXb.cell]; rfl
            have x1 : wb.cell? ⟨wc.heap.size, 1, none⟩ = some (.string kS) := by rw [hXb.cell]; rfl
            have x2 : wb.cell? ⟨wc.heap.size, 2, none⟩ = some (.string uS) := by rw [hXb.cell]; rfl
            have x3 : wb.cell? ⟨wc.heap.size, 3, none⟩ = some (.string aS) := by rw [hXb.cell]; rfl
            have x4 : wb.cell? ⟨wc.heap.size, 4, none⟩ = some (.slice OA oL.length Oc) := by rw [hXb.cell]; rfl
            have x5 : wb.cell? ⟨wc.heap.size, 5, none⟩ = some (.bool kB) := by rw [hXb.cell]; rfl
            have x6 : wb.cell? ⟨wc.heap.size, 6, none⟩ = some (.bool uB) := by rw [hXb.cell]; rfl
            have x7 : wb.cell? ⟨wc.heap.size, 7, none⟩ = some (.bool oB) := by rw [hXb.cell]; rfl
            have x8 : wb.cell? ⟨wc.heap.size, 8, none⟩ = some (.bool aB) := by rw [hXb.cell]; rfl
            have x9 : wb.cell? ⟨wc.heap.size, 9, none⟩ = some (.bool kB) := by rw [hXb.cell]; rfl
            have x10 : wb.cell? ⟨wc.heap.size, 10, none⟩ = some (.bool uB) := by rw [hXb.cell]; rfl
            have x11 : wb.cell? ⟨wc.heap.size, 11, none⟩ = some (.bool oB) := by rw [hXb.cell]; rfl
            have x12 : wb.cell? ⟨wc.heap.size, 12, none⟩ = some (.bool aB) := by rw [hXb.cell]; rfl
            have x13 : wb.cell? ⟨wc.heap.size, 13, none⟩ = some (.slice NA nl Nc) := by rw [hXb.cell]; rfl
            have x14 : wb.cell? ⟨wc.heap.size, 14, none⟩ = some (.slice CA n Cc) := by rw [hXb.cell]; rfl
            have z1 : wb.cell? ⟨N, 1, none⟩ = some (.string kS) := by rw [hNb.cell]; rfl
            have z2 : wb.cell? ⟨N, 2, none⟩ = some (.string uS) := by rw [hNb.cell]; rfl
            have z3 : wb.cell? ⟨N, 3, none⟩ = some (.string aS) := by rw [hNb.cell]; rfl
            have z4 : wb.cell? ⟨N, 4, none⟩ = some (.slice LA2 oL.length lc2) := by rw [hNb.cell]; rfl
            have z5 : wb.cell? ⟨N, 5, none⟩ = some (.bool kB) := by rw [hNb.cell]; rfl
            have z6 : wb.cell? ⟨N, 6, none⟩ = some (.bool uB) := by rw [hNb.cell]; rfl
            have z7 : wb.cell? ⟨N, 7, none⟩ = some (.bool oB) := by rw [hNb.cell]; rfl
            have z8 : wb.cell? ⟨N, 8, none⟩ = some (.bool aB) := by rw [hNb.cell]; rfl
            have HEQ := Lib.hid (EqualT_calls (c := Oc) (c2 := lc2) (Reads.below hro hbb (Nat.le_refl _)) (Reads.below ((KL.reads (KL.fr b2 b3 (by decide))).1) hbb (Nat.le_refl _)) (by have h1 := endT_ob (ss := ss2.take (i + 1)) (t := t0) (fun s hs => (H7.out.2.2.1 s (List.mem_of_mem_take hs)).2.2) (Nat.zero_le _); rw [HTS.out.1, ← HTT.out] at h1; unfold OB at h1; rw [← hoL] at h1; omega))
            rw [decide_eq_true rfl] at HEQ
            have HRB := Lib.hid (And.intro (hrc.below hbb (Nat.le_refl _)) (HR2.out.below ((H5.out.2.2).trans ((b4.trans (hbb.mono (Nat.le_of_lt b1.lt))).mono (by rw [H6.out.2.2.1]; exact H5.out.2.2.size))) (Nat.le_refl _)))
            have HNB := Lib.hid (And.intro hNb hXb)
            have HRN := Lib.hid (own_keep hrn (fun j cs hb => hb.below hbb hb.lt))
            have HNOW := Lib.hid (show NowR N w5 w7 rt wb from ⟨LA2, _, lc2, by rw [hkB, huB, hoB, haB, hkS, huS, haS] at hNb; exact hNb, by rw [← hoL]; exact b2, b3.trans (Fr.of_below hbb), b4.trans (hbb.mono (Nat.le_of_lt b1.lt))⟩)
            clear hrow hro hrn hrc b1 b2 b3 b4 hkB huB hoB haB hkS huS haS hoL hnl hnm hbb hXb hNb hb5c hsl hcut HRC
            have e1 : (kB != kB) = false := by simp
            have e2 : (uB != uB) = false := by simp
            have e3 : (oB != oB) = false := by simp
            have e4 : (aB != aB) = false := by simp
            have e5 : (kS.toList == kS.toList) = true := by simp
            have e6 : (uS.toList == uS.toList) = true := by simp
            have e7 : (aS.toList == aS.toList) = true := by simp
            have hNE : ∀ W : World, Sem.run Tryd.prog (binOp .neq 36 (.agg #[.bool kB, .bool uB, .bool oB, .bool aB]) (.agg #[.bool kB, .bool uB, .bool oB, .bool aB])) W = .ok (.bool false) W := fun W => by cases kB <;> cases uB <;> cases oB <;> cases aB <;> kernel_rfl
            go_upto_region 32 with (fail)
            rw [← hwb]
            clear hwb y0 y1 y2 y3 y4 y5 y6 y7 y8 y9 y10 y11 y12 y13 y14
            go_upto_region 34 with (fail)
            go_upto_region 36 with (first
              | (go_at_call 14; go_loud ((with_reducible refine Calls.mono HEQ.out ?_); rintro e wq ⟨rfl, hbq⟩; have hXq := HNB.out.2.below hbq HNB.out.2.lt; have q14 : wq.cell? ⟨wc.heap.size, 14, none⟩ = some (.slice CA n Cc) := (by rw [hXq.cell]; rfl); have HBQ := Lib.hid (EqualB_calls (c := Cc) (d := c0) (HRB.out.1.below hbq (Nat.le_refl _)) (HRB.out.2.below hbq (Nat.le_refl _))); have HNQ := Lib.hid (And.intro (HNB.out.1.below hbq HNB.out.1.lt) hXq); have HRQ := Lib.hid (own_keep HRN.out (fun j cs hb => hb.below hbq hb.lt)); have HNOWQ := Lib.hid (HNOW.out.below hbq); clear hbq hXq))
              | (go_at_call 15; go_loud ((with_reducible refine Calls.mono HBQ.out ?_); rintro e wz ⟨rfl, hwz⟩; subst hwz)))
            clear HEQ HRB HNB HRN HNOW e1 e2 e3 e4 e5 e6 e7 hNE x0 x1 x2 x3 x4 x5 x6 x7 x8 x9 x10 x11 x12 x13 x14 z1 z2 z3 z4 z5 z6 z7 z8 q14
            have hmk : ∀ W : World, Sem.run Tryd.prog (Instr.makeMap 43 none) W = .ok (.map (some W.heap.size)) (W.alloc (.map #[] 0)) := fun W => by kernel_rfl
            obtain ⟨wm0, hwm0⟩ : ∃ wm0, wm0 = wq.alloc (.map #[] 0) := ⟨_, rfl⟩
            have hM0 : MapL wm0 wq.heap.size [] := by rw [hwm0]; exact MapL.new wq
            have hB0 : Below wq.heap.size wq wm0 := by rw [hwm0]; exact below_alloc' (Below.refl _ _) _
            have hN0 := HNQ.out.1.below hB0 HNQ.out.1.lt
            have v5 : wm0.cell? ⟨N, 5, none⟩ = some (.bool kB) := by rw [hN0.cell]; rfl
            obtain ⟨wm1, hrun0, hM1, hg0⟩ := run_add (P := Tryd.prog) (mty := 43) (kt := 9) (et := 4) Tryd.underlying43 Tryd.underlying9 wm0 wq.heap.size _ hM0 ⟨#[107, 105, 100]⟩ (.bool kB) (by simp)
            have hB1 : Below wq.heap.size wq wm1 := hB0.trans (below_of_grown hg0 (Nat.le_refl _) hB0.size)
            have hN1 := HNQ.out.1.below hB1 HNQ.out.1.lt
            have v6 : wm1.cell? ⟨N, 6, none⟩ = some (.bool uB) := by rw [hN1.cell]; rfl
            obtain ⟨wm2, hrun1, hM2, hg1⟩ := run_add (P := Tryd.prog) (mty := 43) (kt := 9) (et := 4) Tryd.underlying43 Tryd.underlying9 wm1 wq.heap.size _ hM1 ⟨#[117, 115, 101]⟩ (.bool uB) (by simp)
            have hB2 : Below wq.heap.size wq wm2 := hB1.trans (below_of_grown hg1 (Nat.le_refl _) hB1.size)
            have hN2 := HNQ.out.1.below hB2 HNQ.out.1.lt
            have v7 : wm2.cell? ⟨N, 7, none⟩ = some (.bool oB) := by rw [hN2.cell]; rfl
            obtain ⟨wm3, hrun2, hM3, hg2⟩ := run_add (P := Tryd.prog) (mty := 43) (kt := 9) (et := 4) Tryd.underlying43 Tryd.underlying9 wm2 wq.heap.size _ hM2 ⟨#[107, 101, 121, 95, 111, 112, 115]⟩ (.bool oB) (by simp)
            have hB3 : Below wq.heap.size wq wm3 := hB2.trans (below_of_grown hg2 (Nat.le_refl _) hB2.size)
            have hN3 := HNQ.out.1.below hB3 HNQ.out.1.lt
            have v8 : wm3.cell? ⟨N, 8, none⟩ = some (.bool aB) := by rw [hN3.cell]; rfl
            obtain ⟨wm4, hrun3, hM4, hg3⟩ := run_add (P := Tryd.prog) (mty := 43) (kt := 9) (et := 4) Tryd.underlying43 Tryd.underlying9 wm3 wq.heap.size _ hM3 ⟨#[97, 108, 103]⟩ (.bool aB) (by simp)
            have hB4 : Below wq.heap.size wq wm4 := hB3.trans (below_of_grown hg3 (Nat.le_refl _) hB3.size)
            have hN4 := HNQ.out.1.below hB4 HNQ.out.1.lt
            obtain ⟨wm5, hrng, hR, hg5, hs5⟩ := run_range (P := Tryd.prog) (mty := 43) Tryd.underlying43 wm4 wq.heap.size _ hM4
            rw [hwm0] at hrun0 v5
            have hB5 : Below wq.heap.size wq wm5 := hB4.trans ⟨hg5.os, hg5.tape, hg5.output, hg5.size, fun k hk => hg5.block k (Nat.lt_of_lt_of_le hk hB4.size) (by simp)⟩
            simp only [List.nil_append, List.cons_append] at hR
            have HR5 := Lib.hid hR
            have HB5 := Lib.hid hB5
            have HRS := Lib.hid (show wq.heap.size ≤ wm4.heap.size from hB4.size)
            clear hM0 hM1 hM2 hM3 hM4 hB0 hB1 hB2 hB3 hB4 hB5 hN0 hN1 hN2 hN3 hN4 hg0 hg1 hg2 hg3 hg5 hR hwm0 hs5
            go_wp2_with fail
            clear hrun0 hrun1 hrun2 hrun3 hrng v5 v6 v7 v8
            obtain ⟨M, hM⟩ : ∃ M, M = wq.heap.size := ⟨_, rfl⟩
            rw [← hM] at HR5
            have HMM := Lib.hid hM
            clear hM
            obtain ⟨R, hRR⟩ : ∃ R, R = wm4.heap.size := ⟨_, rfl⟩
            rw [← hRR] at HR5 HRS ⊢
            clear hRR
            obtain ⟨LL, hLL⟩ : ∃ LL : List (ByteArray × Value), LL = [(⟨#[107, 105, 100]⟩, .bool kB), (⟨#[117, 115, 101]⟩, .bool uB), (⟨#[107, 101, 121, 95, 111, 112, 115]⟩, .bool oB), (⟨#[97, 108, 103]⟩, .bool aB)] := ⟨_, rfl⟩
            rw [← hLL] at HR5
            have HLL2 := Lib.hid hLL
            have HND := Lib.hid (show (LL.map (·.1)).Nodup by rw [hLL]; show ([⟨#[107, 105, 100]⟩, ⟨#[117, 115, 101]⟩, ⟨#[107, 101, 121, 95, 111, 112, 115]⟩, ⟨#[97, 108, 103]⟩] : List ByteArray).Nodup; decide)
            clear hLL
            go_loopg [] (togo LL []) (fun q wr => ∃ ds : List (ByteArray × Value), q = togo LL ds ∧ Hid (RangL wr M R LL ds) ∧ Hid (Below wq.heap.size wq wr))
            case atStart => exact ⟨[], rfl, HR5, HB5⟩
            case round =>
              clear HR5 HB5
              obtain ⟨ds, hqq, HR, HB⟩ := hrel
              have HQQ := Lib.hid hqq
              clear hqq
              rcases HR.out.next (P := Tryd.prog) 0 HND.out with ⟨hall, hrun⟩ | ⟨p, hp, hf, wn, hrun, hR6, hg6, hent⟩
              · clear hall
                have HNE2 := Lib.hid (HNOWQ.out.below HB.out)
                go_wp2_with fail
                go_roundg (n1 - (i + 1))
                case measure => omega
                case rel => exact ⟨i + 1, by omega, by go_num, by rw [HTS.out.1, ← HTT.out]; exact HNE2⟩
              · obtain ⟨sk, su⟩ := p
                have hBn : Below wq.heap.size wq wn := HB.out.trans (below_of_grown hg6 HRS.out HB.out.size)
                have hXn := HNQ.out.2.below hBn HNQ.out.2.lt
                have c13 : wn.cell? ⟨wc.heap.size, 13, none⟩ = some (.slice NA nl Nc) := by rw [hXn.cell]; rfl
                have hnn2 := own_keep HRQ.out (fun j cs hb => hb.below hBn hb.lt)
                have HCT := Lib.hid (TContains_calls wn NA nl Nc _ sk (Reads.of_own hnn2) (by have h1 := HNMS.out.1; have := nmF_len aB kB oB uB; omega))
                obtain ⟨bb, hbb2⟩ : ∃ bb : Bool, su = .bool bb ∧ (sk ∈ nmL ↔ bb = true) := by
                  rw [HLL2.out] at hp
                  simp only [List.mem_cons, List.not_mem_nil, or_false, Prod.mk.injEq] at hp
                  rw [HNMS.out.2, mem_srt]
                  rcases hp with ⟨rfl, rfl⟩ | ⟨rfl, rfl⟩ | ⟨rfl, rfl⟩ | ⟨rfl, rfl⟩
                  · exact ⟨_, rfl, nm_kid _ _ _ _⟩
                  · exact ⟨_, rfl, nm_use _ _ _ _⟩
                  · exact ⟨_, rfl, nm_ops _ _ _ _⟩
                  · exact ⟨_, rfl, nm_alg _ _ _ _⟩
                obtain ⟨rfl, hbm⟩ := hbb2
                have HBM := Lib.hid hbm
                have HR6 := Lib.hid hR6
                have HBN := Lib.hid hBn
                have HPF := Lib.hid (togo_less hp hf)
                have hbx : (bb != bb) = false := by simp
                clear hbm hR6 hBn hp hf hXn hnn2 hg6
                go_wp2_with (go_at_call 16; go_loud ((with_reducible refine Calls.mono HCT.out ?_); rintro e wx ⟨⟨r, rfl, hr⟩, hwx⟩; subst hwx; have hrb : bb = r := (bool_eq (hr.trans HBM.out)).symm; subst hrb; clear hr))
                go_roundg (togo LL (ds ++ [(sk, .bool bb)]))
                case measure => rw [HQQ.out]; exact HPF.out
                case rel => exact ⟨ds ++ [(sk, .bool bb)], rfl, HR6, HBN⟩
        · have hii : ¬ (i : Int) < (n1 : Int) := by omega
          have HB7 := Lib.hid (show Below w.heap.size w wr from by obtain ⟨_, _, _, b1, b2, b3, b4⟩ := HNW.out; exact (HB2.out.trans (H5.out.2.2.mono HB2.out.size)).trans (b4.mono (by rw [H6.out.2.2.1]; exact Nat.le_trans HB2.out.size H5.out.2.2.size)))
          have HLive := Lib.hid (fieldsLive_calls wr)
          go_wp2_with (go_at_call 10; (with_reducible refine Calls.mono HLive.out ?_); rintro e w3 ⟨rfl, hb3⟩; have HB3 := Lib.hid (HB7.out.trans (hb3.mono HB7.out.size)); clear hb3)
          go_ret
          exact ⟨rfl, HB3.out⟩
end
end Go.Proofs.YtlbnemnadegapaaDoor.Kf
