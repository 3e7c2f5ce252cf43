/- The walk of Encoding.Encode without padding, into a place within a block; the conditions are on sizes alone. -/
import Derived.Test.YteecamdcfkielaaDoorPMath
import Derived.Outline
import Derived.Deep.LoopGhost
import Derived.Deep.MidRow
set_option linter.unusedVariables false
set_option linter.unusedSimpArgs false
namespace Go.Proofs.YteecamdcfkielaaDoor.B64
open Go.RowKit Go.Proofs.YteecamdcfkielaaDoor.K Go.Proofs.YteecamdcfkielaaDoor.Own
/-- An address lies outside a block. -/
def Sep (A : Option Addr) (g : Nat) : Prop := ∀ ad, A = some ad → ad.block ≠ g
theorem Reads.grown {w w' : World} {size n g : Nat} {A : Option Addr} {xs : List Value} (h : Reads w size A n xs) (hg : w.grownBy w' (some g)) (hs : Sep A g) : Reads w' size A n xs :=
  ⟨h.1, fun hn => by
    obtain ⟨ad, e, hl, hc⟩ := h.2 hn
    refine ⟨ad, e, Nat.lt_of_lt_of_le hl hg.size, fun j u hu => ?_⟩
    rw [← hc j u hu]
    refine World.cell?_of_block ?_
    rw [block_of_add]
    exact hg.block _ hl (fun e2 => hs ad e (Option.some.inj e2))⟩
theorem RB.grown {w w' : World} {n g : Nat} {A : Option Addr} {l : List UInt8} (h : RB w A n l) (hg : w.grownBy w' (some g)) (hs : Sep A g) : RB w' A n l := Reads.grown h hg hs
theorem u64_and63 (x : Nat) (hx : x < 18446744073709551616) : bits .and .u64 (x : Int) 63 = ((x % 64 : Nat) : Int) := by
  rw [show (63 : Int) = ((63 : Nat) : Int) from rfl, u64_and_nat _ _ hx (by decide), show (63 : Nat) = 2 ^ 6 - 1 from rfl, Nat.and_two_pow_sub_one_eq_mod]
theorem cut_own {i : TypeInfo} (hi : Tryd.prog.info? 5 = some i) (hs : i.size = 1) (g o n c l : Nat) (hc : n ≤ c) (hl : l ≤ n) (L : Int) (hL : L = (l : Int)) :
    ∃ p, (∀ W : World, (Instr.slice 23 (.slice (some ⟨g, o, none⟩) n c) (some (.int .i64 L)) none none).run Tryd.prog W = .ok (.slice p (n - l) (c - l)) W) ∧ (0 < n - l → p = some ⟨g, o + l, none⟩) := by
  subst hL
  have hel : Tryd.prog.elem 23 = 5 := by simp [Program.elem, Tryd.underlying23]
  have hu : Tryd.prog.underlying 23 = some (.slice (Tryd.prog.elem 23)) := by rw [hel]; exact Tryd.underlying23
  refine ⟨if c = l then some ⟨g, o, none⟩ else some ⟨g, o + l, none⟩, fun W => ?_, fun h => by rw [if_neg (by omega)]⟩
  rw [run_slice_l W 23 _ n c hu .i64 (l : Int) (by omega) (by omega), hel]
  by_cases e : c = l
  · simp [sizeOf, typeInfo, hi, hs, sliced, Result.andThen, e]
  · simp [sizeOf, typeInfo, hi, hs, sliced, Result.andThen, e, add_at]
theorem bys_drop (l : List UInt8) (k : Nat) : bys (l.drop k) = (bys l).drop k := by simp [bys]
theorem bt_drop (l : List UInt8) (k i : Nat) : bt (l.drop k) i = bt l (k + i) := by simp [bt]
theorem cut_l2 {P : Program} {t e : TypeId} {i : TypeInfo} (ht : P.underlying t = some (.slice e)) (hi : P.info? e = some i) {size : Nat} (hs : i.size = size) (kl : IntKind) {w : World} {A : Option Addr} {n c : Nat} {xs : List Value}
    (h : Reads w size A n xs) (hc : n ≤ c) (L : Int) (l : Nat) (hL : L = (l : Int)) (hl : l ≤ n) :
    ∃ A' : Option Addr, (∀ W : World, (Instr.slice t (.slice A n c) (some (.int kl L)) none none).run P W = .ok (.slice A' (n - l) (c - l)) W) ∧ Reads w size A' (n - l) (xs.drop (l * size)) ∧ ∀ g, Sep A g → Sep A' g := by
  subst hL
  have hel : P.elem t = e := by simp [Program.elem, ht]
  have hu : P.underlying t = some (.slice (P.elem t)) := by rw [hel]; exact ht
  refine ⟨_, fun W => ?_, h.cut hl hc, fun g hg => ?_⟩
  · rw [run_slice_l W t A n c hu kl (l : Int) (by omega) (by omega), hel]
    simp [sizeOf, typeInfo, hi, hs, sliced, Result.andThen]
  · split
    · exact hg
    · intro ad had
      cases A with
      | none => cases had
      | some a => 
        obtain rfl := Option.some.inj had
        rw [block_of_add]
        exact hg a rfl
theorem splice_len (cs x : List Value) (o : Nat) (h : o + x.length ≤ cs.length) : (splice cs o x).length = cs.length := by
  unfold splice; rw [List.length_append, List.length_append, List.length_take, List.length_drop]; omega
theorem splice_put (cs : List Value) (o : Nat) (x : List UInt8) (b : UInt8) (h : o + x.length < cs.length) (k : Nat) (hk : k = o + x.length) :
    (splice cs o (bys x)).toArray.setIfInBounds k (.int .u8 (b.toNat : Nat)) = (splice cs o (bys (x ++ [b]))).toArray := by
  subst hk
  rw [List.setIfInBounds_toArray]
  congr 1
  unfold splice
  have h1 : (cs.take o).length = o := by rw [List.length_take]; omega
  rw [List.set_append_right _ _ (by omega), h1, List.set_append_right _ _ (by rw [bys_length]; omega), bys_length, show o + x.length - o - x.length = 0 by omega, bys_append, List.drop_eq_getElem_cons h, List.set_cons_zero, List.append_assoc, List.length_append, bys_length, bys_length]
  rfl
theorem splice_put4 (cs : List Value) (o : Nat) (x : List UInt8) (b0 b1 b2 b3 : UInt8) (n : Nat) (hn : n = x.length) (h : o + n + 4 ≤ cs.length) :
    ((((splice cs o (bys x)).toArray.setIfInBounds (o + n) (.int .u8 (b0.toNat : Nat))).setIfInBounds (o + n + 1) (.int .u8 (b1.toNat : Nat))).setIfInBounds (o + n + 2) (.int .u8 (b2.toNat : Nat))).setIfInBounds (o + n + 3) (.int .u8 (b3.toNat : Nat)) = (splice cs o (bys (x ++ [b0, b1, b2, b3]))).toArray := by
  subst hn
  rw [splice_put _ _ _ _ (by omega) _ rfl, splice_put _ _ _ _ (by simp; omega) _ (by simp; omega), splice_put _ _ _ _ (by simp; omega) _ (by simp; omega), splice_put _ _ _ _ (by simp; omega) _ (by simp; omega)]
  simp
set_option maxRecDepth 100000 in
set_option maxHeartbeats 4000000 in
theorem Encode_calls (w : World) (g gd o n N : Nat) (A : Option Addr) (c cD : Nat) (bs al dm : List UInt8) (cs : List Value) (ha : al.length = 64) (hd : dm.length = 256) (hrb : RB w A n bs) (hcap : n ≤ c) (hsep : 0 < n → Sep A gd) (hne : g ≠ gd)
    (hb : Blk w g 78 (encC al dm (-1)).toArray) (hbd : Blk w gd 5 cs.toArray) (hN : N = rawLen n) (hoN : o + N ≤ cs.length) (hcD : N ≤ cD) (hn : n ≤ 100000) (pd0 : Option Addr) (hpd0 : 0 < N → pd0 = some ⟨gd, o, none⟩) :
    Calls Tryd.prog 62 #[.pointer (some ⟨g, 0, none⟩), .slice pd0 N cD, .slice A n c] w fun e w' => e = .returned (.tuple #[]) ∧ Blk w' gd 5 (splice cs o (bys (encRaw al bs))).toArray ∧ w.grownBy w' (some gd) := by
  have hN2 : N = n / 3 * 4 + (n % 3 * 8 + 5) / 6 := hN
  have HN := Lib.hid hN2
  have HRB := Lib.hid hrb
  have HLEN := Lib.hid hrb.len
  have HB := Lib.hid hb
  have HBD := Lib.hid hbd
  have HSEP := Lib.hid hsep
  have HON := Lib.hid hoN
  have hi86 : (Tryd.prog.info? 75).map (·.size) = some al.length := by rw [ha]; kernel_rfl
  have hrange : w.rangeAt g 0 (bys al) := fun j v hv => by
    have hj : j < al.length := by have := (List.getElem?_eq_some_iff.1 hv).1; simpa [bys] using this
    rw [Nat.zero_add, hb.cell, encC_letter _ _ _ _ ha (by omega), ← hv, bys_get _ _ hj, bt_get _ _ hj]
  have HRG := Lib.hid hrange
  have HI86 := Lib.hid hi86
  have HP0 := Lib.hid hpd0
  clear hN hN2 hrb hb hbd hsep hrange hi86 hpd0 hoN
  by_cases hn0 : n = 0
  · subst hn0
    go_enter Tryd.func62, Tryd.ntmps62
    go_wp2
    have h0 : bs = [] := List.eq_nil_of_length_eq_zero (by rw [← HLEN.out])
    refine bodyPost_ret (v := .tuple #[]) (by kernel_rfl) rfl ⟨rfl, ?_, World.grownBy.refl _ _⟩
    rw [h0, show encRaw al [] = [] from rfl]
    have := HBD.out
    simpa [splice, bys] using this
  have h00n : 0 < n := by omega
  have hn00 : ((n : Int) == 0) = false := by rw [beq_eq_false_iff_ne]; omega
  clear hn0
  go_enter Tryd.func62, Tryd.ntmps62
  go_wp2_with (refine wpList_load_mid rfl 75 _ rfl g 0 rfl (bys al) _ HRG.out Tryd.underlying75 rfl (by rw [bys_length]; exact HI86.out) ?_)
  simp only [Act.put, List.setIfInBounds_toArray, List.set_cons_zero, List.set_cons_succ]
  have h00 : Hid (RB w A (n - 3 * 0) (bs.drop (3 * 0))) := Lib.hid (by simpa using HRB.out)
  have hO0 : Hid (Blk w gd 5 (splice cs o (bys (encG al bs 0))).toArray) := Lib.hid (by simpa [splice, bys, encG] using HBD.out)
  go_loopg [1, 2] (n / 3) (fun k d s wr => ∃ (j : Nat) (As pd : Option Addr) (cS cd : Nat), k + j = n / 3 ∧ s = .slice As (n - 3 * j) cS ∧ d = .slice pd (N - 4 * j) cd ∧ n - 3 * j ≤ cS ∧ N - 4 * j ≤ cd ∧ (0 < N - 4 * j → pd = some ⟨gd, o + 4 * j, none⟩) ∧ Hid (RB w As (n - 3 * j) (bs.drop (3 * j))) ∧ Hid (Sep As gd) ∧ Hid (Blk wr gd 5 (splice cs o (bys (encG al bs j))).toArray) ∧ Hid (w.grownBy wr (some gd)))
  case atStart => exact ⟨0, A, pd0, c, cD, by omega, rfl, rfl, by omega, by omega, HP0.out, h00, HSEP.out h00n, hO0, World.grownBy.refl _ _⟩
  case round =>
    clear h00 hO0
    obtain ⟨j, As, pd, cS, cd, hj, rfl, rfl, hcs, hcd, hpd, HR, HSA, HO, HG⟩ := hrel
    obtain ⟨S, hS⟩ : ∃ S, S = n - 3 * j := ⟨_, rfl⟩
    obtain ⟨M, hM⟩ : ∃ M, M = N - 4 * j := ⟨_, rfl⟩
    rw [← hS] at hcs HR
    rw [← hM] at hcd hpd
    simp only [← hS, ← hM]
    have HS := Lib.hid hS
    have HM := Lib.hid hM
    have HRW := Lib.hid (RB.grown HR.out HG.out HSA.out)
    have hjn := Lib.hid hj
    have hlw : (splice cs o (bys (encG al bs j))).length = cs.length := splice_len _ _ _ (by rw [bys_length, encG_len]; have := HON.out; have := HN.out; omega)
    have HLW := Lib.hid hlw
    clear hS hM hj hlw
    by_cases hlt : 3 ≤ S
    · have hM4 : 4 ≤ M := by have := HN.out; have := HS.out; have := HM.out; omega
      have hlc : o + 4 * j + 4 ≤ cs.length := by have := HON.out; have := HM.out; omega
      obtain rfl := hpd (by omega)
      obtain ⟨ad, hAs, hc0⟩ := HRW.out.bt (k := 0) (by omega)
      obtain ⟨_, h1', hc1⟩ := HRW.out.bt (k := 1) (by omega)
      obtain ⟨_, h2', hc2⟩ := HRW.out.bt (k := 2) (by omega)
      subst hAs
      obtain rfl := Option.some.inj h1'
      obtain rfl := Option.some.inj h2'
      have b0 := bt_lt (bs.drop (3 * j)) 0
      have b1 := bt_lt (bs.drop (3 * j)) 1
      have b2 := bt_lt (bs.drop (3 * j)) 2
      have hS1 : (1 : Int) < (S : Int) := by omega
      have hS2 : (2 : Int) < (S : Int) := by omega
      have hS0 : (0 : Int) < (S : Int) := by omega
      have hc1' : wr.cell? ⟨ad.block, ad.off + 1, none⟩ = some (.int .u8 (bt (bs.drop (3 * j)) 1).toNat) := by simpa [Addr.add] using hc1
      have hc2' : wr.cell? ⟨ad.block, ad.off + 2, none⟩ = some (.int .u8 (bt (bs.drop (3 * j)) 2).toNat) := by simpa [Addr.add] using hc2
      have hc0' : wr.cell? ad = some (.int .u8 (bt (bs.drop (3 * j)) 0).toNat) := by simpa [Addr.add] using hc0
      go_wp2
      go_quiet (fail)
      rw [u64_join3 _ _ _ b0 b1 b2]
      obtain ⟨v, hv⟩ : ∃ v, v = (bt (bs.drop (3 * j)) 0).toNat * 65536 + (bt (bs.drop (3 * j)) 1).toNat * 256 + (bt (bs.drop (3 * j)) 2).toNat := ⟨_, rfl⟩
      rw [← hv]
      have hvl : v < 16777216 := by omega
      have HV := Lib.hid hv
      clear hv hc0 hc1 hc2 hc0' hc1' hc2'
      have q0 : bits .and .u64 ((v : Int) / 262144) 63 = ((v / 262144 % 64 : Nat) : Int) := by rw [show (v : Int) / 262144 = ((v / 262144 : Nat) : Int) by omega, u64_and63 _ (by omega)]
      have q1 : bits .and .u64 ((v : Int) / 4096) 63 = ((v / 4096 % 64 : Nat) : Int) := by rw [show (v : Int) / 4096 = ((v / 4096 : Nat) : Int) by omega, u64_and63 _ (by omega)]
      have q2 : bits .and .u64 ((v : Int) / 64) 63 = ((v / 64 % 64 : Nat) : Int) := by rw [show (v : Int) / 64 = ((v / 64 : Nat) : Int) by omega, u64_and63 _ (by omega)]
      have q3 : bits .and .u64 (v : Int) 63 = ((v % 64 : Nat) : Int) := u64_and63 _ (by omega)
      obtain ⟨x0, hx0⟩ : ∃ x, x = v / 262144 % 64 := ⟨_, rfl⟩
      obtain ⟨x1, hx1⟩ : ∃ x, x = v / 4096 % 64 := ⟨_, rfl⟩
      obtain ⟨x2, hx2⟩ : ∃ x, x = v / 64 % 64 := ⟨_, rfl⟩
      obtain ⟨x3, hx3⟩ : ∃ x, x = v % 64 := ⟨_, rfl⟩
      rw [← hx0] at q0
      rw [← hx1] at q1
      rw [← hx2] at q2
      rw [← hx3] at q3
      have l0 : (x0 : Int) < 64 := by omega
      have l1 : (x1 : Int) < 64 := by omega
      have l2 : (x2 : Int) < 64 := by omega
      have l3 : (x3 : Int) < 64 := by omega
      have HX : Hid (x0 = v / 262144 % 64 ∧ x1 = v / 4096 % 64 ∧ x2 = v / 64 % 64 ∧ x3 = v % 64) := Lib.hid ⟨hx0, hx1, hx2, hx3⟩
      clear hx0 hx1 hx2 hx3
      have hM3 : (3 : Int) < (M : Int) := by omega
      have hM2 : (2 : Int) < (M : Int) := by omega
      have hM1 : (1 : Int) < (M : Int) := by omega
      have hM0 : (0 : Int) < (M : Int) := by omega
      have hE : Blk wr g 78 (encC al dm (-1)).toArray := HB.out.keep HG.out hne
      have lett : ∀ (W : World) (x : Nat), Blk W g 78 (encC al dm (-1)).toArray → x < 64 → W.cell? ⟨g, x, none⟩ = some (.int .u8 (bt al x).toNat) := fun W x h hx => by rw [h.cell, encC_letter _ _ _ _ ha hx]
      have hlast : ∃ u, (wr.drewN nq).cell? ⟨gd, o + 4 * j + 3, none⟩ = some u := by
        have hc := (HO.out.drewN nq).cell (o + 4 * j + 3)
        rw [List.getElem?_toArray, List.getElem?_eq_getElem (by rw [HLW.out]; omega)] at hc
        exact ⟨_, hc⟩
      obtain ⟨ulast, hlast⟩ := hlast
      have c0 := lett (wr.drewN nq) x0 (hE.drewN nq) (by omega)
      have LETT := Lib.hid lett
      have HE0 := Lib.hid (hE.drewN nq)
      obtain ⟨i0, hi, hz0, hz1, hz2⟩ := info_parts info_u8
      obtain ⟨A2, hcS, hrS, hsS⟩ := cut_l2 (P := Tryd.prog) Tryd.underlying23 hi hz1 .i64 HR.out hcs 3 3 rfl hlt
      obtain ⟨p2, hcDD, hpD⟩ := cut_own hi hz1 gd (o + 4 * j) M cd 4 hcd hM4 4 rfl
      have HRS := Lib.hid hrS
      have HSS := Lib.hid (hsS gd HSA.out)
      have HPD := Lib.hid hpD
      clear lett hE hi hz0 hz1 hz2 hrS hsS hpD
      go_wp2_with (first
        | (refine wpList_put (w0 := wr.drewN nq) rfl rfl _ _ rfl gd (o + 4 * j) rfl _ rfl _ (HO.out.drewN nq) (by simp only [Array.size_setIfInBounds, List.size_toArray]; rw [HLW.out]; omega) (World.grownBy.refl _ _) ?_; intro z0 hb0 hg0; have HZ0 := Lib.hid hb0; have HG0 := Lib.hid hg0; clear hb0 hg0; have c1 := LETT.out z0 x1 (HE0.out.keep HG0.out hne) (by omega))
        | (refine wpList_put (w0 := wr.drewN nq) rfl rfl _ _ rfl gd (o + 4 * j + 1) rfl _ rfl _ HZ0.out (by simp only [Array.size_setIfInBounds, List.size_toArray]; rw [HLW.out]; omega) HG0.out ?_; intro z1 hb1 hg1; have HZ1 := Lib.hid hb1; have HG1 := Lib.hid hg1; clear hb1 hg1; have c2 := LETT.out z1 x2 (HE0.out.keep HG1.out hne) (by omega))
        | (refine wpList_put (w0 := wr.drewN nq) rfl rfl _ _ rfl gd (o + 4 * j + 2) rfl _ rfl _ HZ1.out (by simp only [Array.size_setIfInBounds, List.size_toArray]; rw [HLW.out]; omega) HG1.out ?_; intro z2 hb2 hg2; have HZ2 := Lib.hid hb2; have HG2 := Lib.hid hg2; clear hb2 hg2; have c3 := LETT.out z2 x3 (HE0.out.keep HG2.out hne) (by omega))
        | (refine wpList_put (w0 := wr.drewN nq) rfl rfl _ _ rfl gd (o + 4 * j + 3) rfl _ rfl _ HZ2.out (by simp only [Array.size_setIfInBounds, List.size_toArray]; rw [HLW.out]; omega) HG2.out ?_; intro z3 hb3 hg3; have HZ3 := Lib.hid hb3; have HG3 := Lib.hid hg3; clear hb3 hg3; skip))
      go_roundg (n / 3 - (j + 1))
      case measure => have := HS.out; have := hjn.out; omega
      case rel =>
        refine ⟨j + 1, A2, p2, cS - 3, cd - 4, by have := HS.out; omega, by rw [HS.out]; congr 1, by rw [HM.out]; congr 1, by have := HS.out; omega, by have := HM.out; omega, ?_, ?_, HSS, ?_, ?_⟩
        · intro h
          rw [HPD.out (by have := HM.out; omega)]
          rfl
        · show RB _ _ _ _
          have h := HRS.out
          have e : (bys (bs.drop (3 * j))).drop (3 * 1) = bys (bs.drop (3 * (j + 1))) := by
            rw [← bys_drop, List.drop_drop]
            rfl
          rw [e, show S - 3 = n - 3 * (j + 1) by have := HS.out; omega] at h
          exact h
        · show Blk _ _ _ _
          have h := HZ3.out
          rw [splice_put4 cs o (encG al bs j) _ _ _ _ (4 * j) (encG_len _ _ _).symm hlc, HX.out.1, HX.out.2.1, HX.out.2.2.1, HX.out.2.2.2, HV.out, bt_drop, bt_drop, bt_drop] at h
          exact h
        · exact grown_trans (grown_drewN HG.out nq) HG3.out
    · have hj3 : j = n / 3 := by have := HS.out; have := hjn.out; omega
      have HJ3 := Lib.hid hj3
      have hfin := fun (hT : encT al bs = []) => show splice cs o (bys (encRaw al bs)) = splice cs o (bys (encG al bs j)) by rw [encRaw, hT, List.append_nil, hj3, HLEN.out]
      have hfin2 : ∀ (x : List UInt8), encT al bs = x → splice cs o (bys (encRaw al bs)) = splice cs o (bys (encG al bs j ++ x)) := fun x hT => by rw [encRaw, hT, hj3, HLEN.out]
      have HF := Lib.hid hfin
      have HF2 := Lib.hid hfin2
      clear hfin hfin2 hj3
      have hE : Blk wr g 78 (encC al dm (-1)).toArray := HB.out.keep HG.out hne
      have HE := Lib.hid hE
      have lett : ∀ (W : World) (x : Nat), Blk W g 78 (encC al dm (-1)).toArray → x < 64 → W.cell? ⟨g, x, none⟩ = some (.int .u8 (bt al x).toNat) := fun W x h hx => by rw [h.cell, encC_letter _ _ _ _ ha hx]
      have padc : ∀ (W : World), Blk W g 78 (encC al dm (-1)).toArray → W.cell? ⟨g, 320, none⟩ = some (.int .i32 (-1)) := fun W h => by rw [h.cell, encC_pad_at _ _ _ ha hd]
      have LETT := Lib.hid lett
      have PADC := Lib.hid padc
      clear hE lett padc
      by_cases hs0 : S = 0
      · subst hs0
        go_wp2
        have e := HF.out (by rw [encT, ← HLEN.out, if_neg (by have := HS.out; have := HJ3.out; omega), if_neg (by have := HS.out; have := HJ3.out; omega)])
        exact bodyPost_ret (v := .tuple #[]) (by kernel_rfl) rfl ⟨rfl, by rw [e]; exact HO.out, HG.out⟩
      by_cases hs1 : S = 1
      · subst hs1
        obtain rfl : M = 2 := by have := HN.out; have := HS.out; have := HM.out; have := HJ3.out; omega
        have hlc : o + 4 * j + 2 ≤ cs.length := by have := HON.out; have := HM.out; omega
        obtain rfl := hpd (by omega)
        obtain ⟨ad, hAs, hc0⟩ := HRW.out.bt (k := 0) (by omega)
        subst hAs
        obtain ⟨p, hp⟩ : ∃ p, p = (bt (bs.drop (3 * j)) 0).toNat := ⟨_, rfl⟩
        have hpl := bt_lt (bs.drop (3 * j)) 0
        rw [← hp] at hc0 hpl
        have hc0' : wr.cell? ad = some (.int .u8 (p : Nat)) := by simpa [Addr.add] using hc0
        have HP := Lib.hid hp
        clear hp hc0
        have q0 : bits .and .u64 ((p : Int) * 65536 / 262144) 63 = ((p * 65536 / 262144 % 64 : Nat) : Int) := by rw [show (p : Int) * 65536 / 262144 = ((p * 65536 / 262144 : Nat) : Int) by omega, u64_and63 _ (by omega)]
        have q1 : bits .and .u64 ((p : Int) * 65536 / 4096) 63 = ((p * 65536 / 4096 % 64 : Nat) : Int) := by rw [show (p : Int) * 65536 / 4096 = ((p * 65536 / 4096 : Nat) : Int) by omega, u64_and63 _ (by omega)]
        obtain ⟨x0, hx0⟩ : ∃ x, x = p * 65536 / 262144 % 64 := ⟨_, rfl⟩
        obtain ⟨x1, hx1⟩ : ∃ x, x = p * 65536 / 4096 % 64 := ⟨_, rfl⟩
        rw [← hx0] at q0
        rw [← hx1] at q1
        have l0 : (x0 : Int) < 64 := by omega
        have l1 : (x1 : Int) < 64 := by omega
        have HX : Hid (x0 = p * 65536 / 262144 % 64 ∧ x1 = p * 65536 / 4096 % 64) := Lib.hid ⟨hx0, hx1⟩
        clear hx0 hx1
        have c0 := LETT.out wr x0 HE.out (by omega)
        go_wp2_with (first
          | (refine wpList_put (w0 := wr) rfl rfl _ _ rfl gd (o + 4 * j) rfl _ rfl _ HO.out (by simp only [Array.size_setIfInBounds, List.size_toArray]; rw [HLW.out]; omega) (World.grownBy.refl _ _) ?_; intro z0 hb0 hg0; have HZ0 := Lib.hid hb0; have HG0 := Lib.hid hg0; clear hb0 hg0; have c1 := LETT.out z0 x1 (HE.out.keep HG0.out hne) (by omega))
          | (refine wpList_put (w0 := wr) rfl rfl _ _ rfl gd (o + 4 * j + 1) rfl _ rfl _ HZ0.out (by simp only [Array.size_setIfInBounds, List.size_toArray]; rw [HLW.out]; omega) HG0.out ?_; intro z1 hb1 hg1; have HZ1 := Lib.hid hb1; have HG1 := Lib.hid hg1; clear hb1 hg1; have cp := PADC.out z1 (HE.out.keep HG1.out hne)))
        refine bodyPost_end (v := .tuple #[]) (by kernel_rfl) rfl ⟨rfl, ?_, grown_trans HG.out HG1.out⟩
        rw [HF2.out [bt al x0, bt al x1] (by rw [encT, ← HLEN.out, if_pos (by have := HS.out; have := HJ3.out; omega), let4, HX.out.1, HX.out.2, HP.out, bt_drop, HJ3.out, Nat.mul_comm 3, Nat.add_zero]; rfl)]
        have h := HZ1.out
        rw [splice_put cs o (encG al bs j) _ (by rw [encG_len]; omega) _ (by rw [encG_len]), splice_put cs o _ _ (by rw [List.length_append, encG_len]; simp; omega) _ (by rw [List.length_append, encG_len]; simp; omega), List.append_assoc] at h
        exact h
      · obtain rfl : S = 2 := by omega
        obtain rfl : M = 3 := by have := HN.out; have := HS.out; have := HM.out; have := HJ3.out; omega
        have hlc : o + 4 * j + 3 ≤ cs.length := by have := HON.out; have := HM.out; omega
        obtain rfl := hpd (by omega)
        obtain ⟨ad, hAs, hc0⟩ := HRW.out.bt (k := 0) (by omega)
        obtain ⟨_, h1', hc1⟩ := HRW.out.bt (k := 1) (by omega)
        subst hAs
        obtain rfl := Option.some.inj h1'
        have b0 := bt_lt (bs.drop (3 * j)) 0
        have b1 := bt_lt (bs.drop (3 * j)) 1
        have hc1' : wr.cell? ⟨ad.block, ad.off + 1, none⟩ = some (.int .u8 (bt (bs.drop (3 * j)) 1).toNat) := by simpa [Addr.add] using hc1
        have hc0' : wr.cell? ad = some (.int .u8 (bt (bs.drop (3 * j)) 0).toNat) := by simpa [Addr.add] using hc0
        go_wp2
        go_quiet (fail)
        rw [u64_join2 _ _ b0 b1]
        obtain ⟨v, hv⟩ : ∃ v, v = (bt (bs.drop (3 * j)) 0).toNat * 65536 + (bt (bs.drop (3 * j)) 1).toNat * 256 := ⟨_, rfl⟩
        rw [← hv]
        have hvl : v < 16777216 := by omega
        have HV := Lib.hid hv
        clear hv hc0 hc1 hc0' hc1'
        have q0 : bits .and .u64 ((v : Int) / 262144) 63 = ((v / 262144 % 64 : Nat) : Int) := by rw [show (v : Int) / 262144 = ((v / 262144 : Nat) : Int) by omega, u64_and63 _ (by omega)]
        have q1 : bits .and .u64 ((v : Int) / 4096) 63 = ((v / 4096 % 64 : Nat) : Int) := by rw [show (v : Int) / 4096 = ((v / 4096 : Nat) : Int) by omega, u64_and63 _ (by omega)]
        have q2 : bits .and .u64 ((v : Int) / 64) 63 = ((v / 64 % 64 : Nat) : Int) := by rw [show (v : Int) / 64 = ((v / 64 : Nat) : Int) by omega, u64_and63 _ (by omega)]
        obtain ⟨x0, hx0⟩ : ∃ x, x = v / 262144 % 64 := ⟨_, rfl⟩
        obtain ⟨x1, hx1⟩ : ∃ x, x = v / 4096 % 64 := ⟨_, rfl⟩
        obtain ⟨x2, hx2⟩ : ∃ x, x = v / 64 % 64 := ⟨_, rfl⟩
        rw [← hx0] at q0
        rw [← hx1] at q1
        rw [← hx2] at q2
        have l0 : (x0 : Int) < 64 := by omega
        have l1 : (x1 : Int) < 64 := by omega
        have l2 : (x2 : Int) < 64 := by omega
        have HX : Hid (x0 = v / 262144 % 64 ∧ x1 = v / 4096 % 64 ∧ x2 = v / 64 % 64) := Lib.hid ⟨hx0, hx1, hx2⟩
        clear hx0 hx1 hx2
        have c0 := LETT.out (wr.drewN nq) x0 (HE.out.drewN nq) (by omega)
        have HE0 := Lib.hid (HE.out.drewN nq)
        go_wp2_with (first
          | (refine wpList_put (w0 := wr.drewN nq) rfl rfl _ _ rfl gd (o + 4 * j) rfl _ rfl _ (HO.out.drewN nq) (by simp only [Array.size_setIfInBounds, List.size_toArray]; rw [HLW.out]; omega) (World.grownBy.refl _ _) ?_; intro z0 hb0 hg0; have HZ0 := Lib.hid hb0; have HG0 := Lib.hid hg0; clear hb0 hg0; have c1 := LETT.out z0 x1 (HE0.out.keep HG0.out hne) (by omega))
          | (refine wpList_put (w0 := wr.drewN nq) rfl rfl _ _ rfl gd (o + 4 * j + 1) rfl _ rfl _ HZ0.out (by simp only [Array.size_setIfInBounds, List.size_toArray]; rw [HLW.out]; omega) HG0.out ?_; intro z1 hb1 hg1; have HZ1 := Lib.hid hb1; have HG1 := Lib.hid hg1; clear hb1 hg1; have c2 := LETT.out z1 x2 (HE0.out.keep HG1.out hne) (by omega))
          | (refine wpList_put (w0 := wr.drewN nq) rfl rfl _ _ rfl gd (o + 4 * j + 2) rfl _ rfl _ HZ1.out (by simp only [Array.size_setIfInBounds, List.size_toArray]; rw [HLW.out]; omega) HG1.out ?_; intro z2 hb2 hg2; have HZ2 := Lib.hid hb2; have HG2 := Lib.hid hg2; clear hb2 hg2; have cp := PADC.out z2 (HE0.out.keep HG2.out hne)))
        refine bodyPost_end (v := .tuple #[]) (by kernel_rfl) rfl ⟨rfl, ?_, grown_trans (grown_drewN HG.out nq) HG2.out⟩
        rw [HF2.out [bt al x0, bt al x1, bt al x2] (by rw [encT, ← HLEN.out, if_neg (by have := HS.out; have := HJ3.out; omega), if_pos (by have := HS.out; have := HJ3.out; omega), let4, HX.out.1, HX.out.2.1, HX.out.2.2, HV.out, bt_drop, bt_drop, HJ3.out, Nat.mul_comm 3, Nat.add_zero]; rfl)]
        have h := HZ2.out
        rw [splice_put cs o (encG al bs j) _ (by rw [encG_len]; omega) _ (by rw [encG_len]), splice_put cs o _ _ (by rw [List.length_append, encG_len]; simp; omega) _ (by rw [List.length_append, encG_len]; simp; omega), splice_put cs o _ _ (by simp only [List.length_append, encG_len]; simp; omega) _ (by simp only [List.length_append, encG_len]; simp; omega), List.append_assoc, List.append_assoc] at h
        exact h
end Go.Proofs.YteecamdcfkielaaDoor.B64
