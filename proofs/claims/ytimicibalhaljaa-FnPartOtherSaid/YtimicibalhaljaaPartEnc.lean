/- The walk of the reference's PartEncoded; the condition is on the size alone. -/
import Derived.Test.YtimicibalhaljaaPartAwake
set_option linter.unusedVariables false
set_option linter.unusedSimpArgs false
namespace Go.Proofs.Ytimicibalhaljaa.B64
open Go.RowKit Go.Proofs.Ytimicibalhaljaa.K Go.Proofs.Ytimicibalhaljaa.Own
/-- The number of up to three bytes. -/
def nv (g : List UInt8) : Nat → Nat
  | 0 => 0
  | j + 1 => nv g j * 256 + (bt g j).toNat
theorem nv_lt (g : List UInt8) : ∀ j, nv g j < 256 ^ j
  | 0 => by simp [nv]
  | j + 1 => by
    have := nv_lt g j
    have hb := bt_lt g j
    rw [nv, Nat.pow_succ]
    omega
def grp (al : List UInt8) (p : Bool) (g : List UInt8) : List UInt8 := (let4 al (nv g 3)).take (g.length + 1) ++ (if p then List.replicate (3 - g.length) 61 else [])
theorem encL_step (al : List UInt8) (p : Bool) (r : List UInt8) (h : r ≠ []) : encL al p r = grp al p (r.take 3) ++ encL al p (r.drop 3) := by
  match r, h with
  | [a], _ =>
    have : nv [a] 3 = a.toNat * 65536 := by simp [nv, bt]; omega
    cases p <;> simp [encL, grp, this, let4]
  | [a, b], _ =>
    have : nv [a, b] 3 = a.toNat * 65536 + b.toNat * 256 := by simp [nv, bt]; omega
    cases p <;> simp [encL, grp, this, let4]
  | a :: b :: c :: r, _ =>
    have : nv [a, b, c] 3 = a.toNat * 65536 + b.toNat * 256 + c.toNat := by simp [nv, bt]; omega
    cases p <;> simp [encL, grp, this, let4]
theorem u32_and63 (x : Nat) (hx : x < 4294967296) : bits .and .u32 (x : Int) 63 = ((x % 64 : Nat) : Int) := by
  rw [show (63 : Int) = ((63 : Nat) : Int) from rfl, u32_and_nat _ _ hx (by decide), show (63 : Nat) = 2 ^ 6 - 1 from rfl, Nat.and_two_pow_sub_one_eq_mod]
def alFor (url : Bool) : List UInt8 := if url then alURL else alStd
theorem alFor_len (url : Bool) : (alFor url).length = 64 := by cases url <;> rfl
theorem partLetters_calls (w : World) (url : Bool) : Calls Try.prog 35 #[.bool url] w fun e w' => e = .returned (.string ⟨(alFor url).toArray⟩) ∧ w = w' := by
  cases url with
  | true =>
    go_enter Try.func35, Try.ntmps35
    go_wp2
    go_ret
    exact ⟨rfl, rfl⟩
  | false =>
    go_enter Try.func35, Try.ntmps35
    go_wp2
    go_ret
    exact ⟨rfl, rfl⟩
/-- Where the text stands. -/
def ERel (w : World) (al bs : List UInt8) (p : Bool) (R : Nat) (b o : Value) (wr : World) : Prop :=
  ∃ (As : Option Addr) (cS N : Nat) (rest outl : List UInt8), b = .slice As R cS ∧ R ≤ cS ∧ RB w As R rest ∧ encL al p bs = outl ++ encL al p rest ∧ outl.length = N ∧ N + 4 * R ≤ 400000 ∧ wr.ownsRow w.heap.size 5 1 o N (bys outl) ∧ Below w.heap.size w wr
set_option maxRecDepth 100000 in
set_option maxHeartbeats 4000000 in
theorem PartEncoded_calls (w : World) (A : Option Addr) (n c : Nat) (bs : List UInt8) (url p : Bool) (h : RB w A n bs) (hc : n ≤ c) (hn : n ≤ 100000) :
    Calls Try.prog 20 #[.slice A n c, .bool url, .bool p] w fun e w' => ∃ v, e = .returned v ∧ OwnB w.heap.size w' v (encL (alFor url) p bs) ∧ Below w.heap.size w w' := by
  obtain ⟨al, hal⟩ : ∃ al, al = alFor url := ⟨_, rfl⟩
  have hL := partLetters_calls w url
  rw [← hal] at hL ⊢
  have ha : al.length = 64 := by rw [hal]; exact alFor_len url
  have HL := Lib.hid hL
  have HA := Lib.hid ha
  have hsz : (⟨al.toArray⟩ : ByteArray).size = 64 := by simp [ByteArray.size, ha]
  have HRB := Lib.hid h
  obtain ⟨i0, hi, hz0, hz1, hz2⟩ := info_parts info_u8
  have HI := Lib.hid (And.intro hi (And.intro hz0 (And.intro hz1 hz2)))
  clear hL h hal ha hi hz0 hz1 hz2
  go_enter Try.func20, Try.ntmps20
  go_wp2_with fail
  refine HL.out.mono ?_
  rintro e w1 ⟨rfl, rfl⟩
  go_wp2_with fail
  go_loopg [0, 8] n (fun k b o wr => ERel w al bs p k b o wr)
  case atStart => exact ⟨A, c, 0, bs, [], rfl, hc, HRB.out, rfl, rfl, by omega, own_empty w 5 1, below_alloc' (Below.refl _ _) _⟩
  case round =>
    obtain ⟨R, hR⟩ : ∃ R, R = gk := ⟨_, rfl⟩
    subst hR
    obtain ⟨As, cS, N, rest, outl, rfl, hcS, hrb, henc, hout, hN, hown, hB⟩ := hrel
    have HR := Lib.hid hrb
    have HE := Lib.hid (And.intro henc hout)
    have HO := Lib.hid hown
    have HB := Lib.hid hB
    clear hrb henc hout hown hB
    by_cases h0 : R = 0
    · subst h0
      go_wp2
      go_ret
      have hr0 : rest = [] := List.eq_nil_of_length_eq_zero HR.out.len.symm
      have he := HE.out.1
      rw [hr0] at he
      refine ⟨_, rfl, OwnB.mk (n := N) ?_, HB.out⟩
      rw [he, show encL al p [] = [] from rfl, List.append_nil]
      exact HO.out
    · have hpos : (0 : Int) < (R : Int) := by omega
      obtain ⟨g, hg⟩ : ∃ g, g = rest.take 3 := ⟨_, rfl⟩
      obtain ⟨K, hK⟩ : ∃ K, K = g.length := ⟨_, rfl⟩
      have hKv : K = min 3 R := by rw [hK, hg, List.length_take, ← HR.out.len]
      have hmin : min (3 : Int) (R : Int) = (K : Int) := by omega
      have HG := Lib.hid (And.intro hg hK)
      have hK1 : 1 ≤ K ∧ K ≤ 3 ∧ K ≤ R := by omega
      have HK := Lib.hid (And.intro hKv hK1)
      clear hg hK hKv
      have hpn : 0 < R := by omega
      obtain ⟨ad, hAd, _⟩ := HR.out.2 hpn
      subst hAd
      obtain ⟨A2, hcut, hcr⟩ := cut_l (P := Try.prog) Try.underlying22 HI.out.1 HI.out.2.2.1 .i64 HR.out hcS (K : Int) K rfl hK1.2.2
      have HCR := Lib.hid hcr
      have HRW := Lib.hid (HR.out.below HB.out (Nat.le_refl _))
      have hgb : ∀ j, j < K → bt rest j = bt g j := fun j hj => by
        rw [HG.out.1, bt_get _ _ (by rw [← HR.out.len]; omega), bt_get _ _ (by rw [← HG.out.1, ← HG.out.2]; exact hj), List.getElem_take]
      have hg0 : ∀ j, K ≤ j → bt g j = 0 := fun j hj => by
        rw [bt, List.getD_eq_getElem?_getD, List.getElem?_eq_none (by rw [← HG.out.2]; exact hj)]; rfl
      have HGB := Lib.hid hgb
      have HG0 := Lib.hid hg0
      obtain ⟨wo, hwo⟩ : ∃ wo, wo = wr := ⟨_, rfl⟩
      subst hwo
      clear hcr hgb hg0 h0
      go_wp2
      go_loopg [9, 11] 3 (fun k nn i wr2 => ∃ j m : Nat, k + j = 3 ∧ nn = .int .u32 (m : Nat) ∧ Hid (m = nv g j) ∧ i = .int .i64 (j : Nat) ∧ wr2 = wo)
      case atStart => exact ⟨0, 0, rfl, rfl, rfl, rfl, rfl⟩
      case round =>
        obtain ⟨j, m, hkj, rfl, hm, rfl, hw⟩ := hrel
        subst hw
        by_cases hj : j < 3
        · have hm2 : m < 65536 := by
            have h1 := nv_lt g j
            have h2 : 256 ^ j ≤ 256 ^ 2 := Nat.pow_le_pow_right (by decide) (by omega)
            rw [← hm.out] at h1
            omega
          by_cases hjK : j < K
          · obtain ⟨ad', e, hc1⟩ := HRW.out.bt (k := j) (by omega)
            obtain rfl := Option.some.inj e
            obtain ⟨b, hb⟩ : ∃ b, b = (bt rest j).toNat := ⟨_, rfl⟩
            have hb256 : b < 256 := by rw [hb]; exact bt_lt _ _
            rw [← hb] at hc1
            have hor : bits .or .u32 ((m : Int) * 256) (b : Int) = ((m * 256 + b : Nat) : Int) := by
              rw [show (m : Int) * 256 = ((m * 256 : Nat) : Int) by rw [Int.natCast_mul]; rfl, u32_or_nat _ _ (by omega) (by omega), nat_join 8 _ _ (by omega) (by omega)]
            have hjg : j < R := by omega
            have HBB := Lib.hid hb
            clear hb e
            go_wp2
            go_roundg (3 - (j + 1))
            case measure => omega
            case rel => exact ⟨j + 1, m * 256 + b, by omega, rfl, by show _ = _; rw [nv, ← hm.out, HBB.out, HGB.out j hjK], by go_num, rfl⟩
          · go_wp2
            go_roundg (3 - (j + 1))
            case measure => omega
            case rel => exact ⟨j + 1, m * 256, by omega, by go_num, by show _ = _; rw [nv, ← hm.out, HG0.out j (by omega)]; rfl, by go_num, rfl⟩
        · obtain rfl : j = 3 := by omega
          have hml : m < 16777216 := by rw [hm.out]; exact nv_lt g 3
          obtain ⟨L4, hL4⟩ : ∃ L4, L4 = let4 al m := ⟨_, rfl⟩
          have hHL : Hid (L4 = let4 al (nv g 3) ∧ m = nv g 3) := Lib.hid ⟨by rw [hL4, hm.out], hm.out⟩
          have HL4 := Lib.hid hL4
          clear hL4 hm hkj hj
          go_wp2
          go_loopg [8, 12] (K + 1) (fun k o i wr2 => ∃ j N2 : Nat, k + j = K + 1 ∧ i = .int .i64 (j : Nat) ∧ N2 = N + j ∧ Hid (wr2.ownsRow w.heap.size 5 1 o N2 (bys (outl ++ L4.take j))) ∧ Hid (Below w.heap.size w wr2))
          case atStart => exact ⟨0, N, by omega, rfl, rfl, by show World.ownsRow _ _ _ _ _ _ _; rw [List.take_zero, List.append_nil]; exact HO.out, HB⟩
          case round =>
            obtain ⟨j, N2, hkj, rfl, hN2, HO2, HB2⟩ := hrel
            have hHN := Lib.hid hN2
            clear hN2
            by_cases hjK : j ≤ K
            · have hj4 : j = 0 ∨ j = 1 ∨ j = 2 ∨ j = 3 := by omega
              have hjKi : (j : Int) ≤ (K : Int) := by omega
              have hN2b : N2 ≤ 500000 := by have := hHN.out; omega
              obtain ⟨x, hx⟩ : ∃ x, x = (if j = 0 then m / 262144 % 64 else if j = 1 then m / 4096 % 64 else if j = 2 then m / 64 % 64 else m % 64) := ⟨_, rfl⟩
              have hxl : x < 64 := by rw [hx]; split; omega; split; omega; split; omega; omega
              have hxi : (x : Int) < 64 := by omega
              have hand : bits .and .u32 ((m : Int) / 2 ^ (18 - 6 * j)) 63 = (x : Int) := by
                rcases hj4 with rfl | rfl | rfl | rfl
                · rw [show (m : Int) / 2 ^ (18 - 6 * 0) = ((m / 262144 : Nat) : Int) by simp, u32_and63 _ (by omega), hx]; rfl
                · rw [show (m : Int) / 2 ^ (18 - 6 * 1) = ((m / 4096 : Nat) : Int) by simp, u32_and63 _ (by omega), hx]; rfl
                · rw [show (m : Int) / 2 ^ (18 - 6 * 2) = ((m / 64 : Nat) : Int) by simp, u32_and63 _ (by omega), hx]; rfl
                · rw [show (m : Int) / 2 ^ (18 - 6 * 3) = ((m : Nat) : Int) by simp, u32_and63 _ (by omega), hx]; rfl
              have hix : (⟨al.toArray⟩ : ByteArray)[x]'(by rw [hsz]; exact hxl) = bt al x := by
                rw [bt_get _ _ (by rw [HA.out]; exact hxl)]
                rfl
              have HXX : Hid (L4.take (j + 1) = L4.take j ++ [bt al x]) := Lib.hid (by
                rw [HL4.out]
                rcases hj4 with rfl | rfl | rfl | rfl <;> simp [hx, let4])
              obtain ⟨bb, hbb⟩ : ∃ bb, bb = bt al x := ⟨_, rfl⟩
              rw [← hbb] at hix
              have HBB := Lib.hid hbb
              have hsh : ((18 : Int) - 6 * (j : Int)).toNat = 18 - 6 * j := by omega
              clear hx hbb hj4
              go_wp2_with (at_builtin; refine wpList_append_any _ rfl (.tmp 44) (.tmp 53) 22 rfl w.heap.size 5 i0 (.int .u8 0) 1 1 Try.underlying22 HI.out.1 HI.out.2.1 HI.out.2.2.1 HI.out.2.2.2 rfl (by decide) _ N2 _ rfl (World.ownsRow.alloc HO2.out _) (some ⟨wr.heap.size, 0, none⟩) 1 1 (bys [bb]) rfl (rb_lit wr [bb] 1 _ rfl rfl _) (bys_one _) (by unfold maxLen; omega) (by omega) (by have := HB2.out.size; simp; omega) ?_; intro v3 w3 hown3 hg3 hat3; have HO3 := Lib.hid hown3; have HB3 := Lib.hid ((below_alloc' HB2.out _).grown hg3 (by have := HB2.out.size; simp; omega) (by intro k hk; exact own_block_ge HO2.out k hk)); clear hown3 hg3 hat3)
              go_roundg (K + 1 - (j + 1))
              case measure => omega
              case rel =>
                refine ⟨j + 1, N2 + 1, by omega, by go_num, by have := hHN.out; omega, ?_, HB3⟩
                show World.ownsRow _ _ _ _ _ _ _
                rw [HXX.out, ← HBB.out, ← List.append_assoc, bys_append]
                exact HO3.out
            · obtain rfl : j = K + 1 := by omega
              have hN2b : N2 ≤ 500000 := by have := hHN.out; omega
              clear hkj
              go_wp2
              go_loopg [8, 13] (3 - K) (fun k o i wr2 => ∃ j N3 : Nat, k + j = 3 ∧ K ≤ j ∧ i = .int .i64 (j : Nat) ∧ Hid (N3 + K = N2 + j) ∧ Hid (p = false → j = K) ∧ Hid (wr2.ownsRow w.heap.size 5 1 o N3 (bys (outl ++ L4.take (K + 1) ++ List.replicate (j - K) 61))) ∧ Hid (Below w.heap.size w wr2))
              case atStart => exact ⟨K, N2, by omega, Nat.le_refl _, rfl, rfl, (fun _ => rfl), by show World.ownsRow _ _ _ _ _ _ _; rw [Nat.sub_self, List.replicate_zero, List.append_nil]; exact HO2.out, HB2⟩
              case round =>
                obtain ⟨j, N3, hkj, hjK2, rfl, hHN3, hHp, HO3a, HB3a⟩ := hrel
                have hN3b : N3 ≤ 500003 := by have := hHN3.out; omega
                by_cases hjp : j < 3 ∧ p = true
                · obtain ⟨hj3, hpt⟩ := hjp
                  subst hpt
                  have hj3i : (j : Int) < 3 := by omega
                  go_wp2_with (at_builtin; refine wpList_append_any _ rfl (.tmp 63) (.tmp 64) 22 rfl w.heap.size 5 i0 (.int .u8 0) 1 1 Try.underlying22 HI.out.1 HI.out.2.1 HI.out.2.2.1 HI.out.2.2.2 rfl (by decide) _ N3 _ rfl (World.ownsRow.alloc HO3a.out _) (some ⟨wr.heap.size, 0, none⟩) 1 1 (bys [61]) rfl (rb_lit wr [61] 1 _ rfl rfl _) (bys_one _) (by unfold maxLen; omega) (by omega) (by have := HB3a.out.size; simp; omega) ?_; intro v3 w3 hown3 hg3 hat3; have HO3 := Lib.hid hown3; have HB3 := Lib.hid ((below_alloc' HB3a.out _).grown hg3 (by have := HB3a.out.size; simp; omega) (by intro k hk; exact own_block_ge HO3a.out k hk)); clear hown3 hg3 hat3)
                  go_roundg (3 - (j + 1))
                  case measure => omega
                  case rel =>
                    refine ⟨j + 1, N3 + 1, by omega, by omega, by go_num, ?_, (fun h => by cases h), ?_, HB3⟩
                    · show _ = _
                      have := hHN3.out; omega
                    · show World.ownsRow _ _ _ _ _ _ _
                      rw [show j + 1 - K = (j - K) + 1 by omega, List.replicate_succ', ← List.append_assoc, bys_append]
                      exact HO3.out
                · have hfin : Hid (outl ++ L4.take (K + 1) ++ List.replicate (j - K) 61 = outl ++ grp al p g) := Lib.hid (by
                    rw [grp, ← HG.out.2, hHL.out.1, List.append_assoc]
                    congr 2
                    cases p with
                    | false => rw [hHp.out rfl, Nat.sub_self]; rfl
                    | true =>
                      have : j = 3 := by
                        by_cases h : j < 3
                        · exact absurd ⟨h, rfl⟩ hjp
                        · omega
                      rw [this]; rfl)
                  have hrd : Hid (rest.drop K = rest.drop 3) := Lib.hid (by
                    have := HR.out.len
                    by_cases h3 : K = 3
                    · rw [h3]
                    · rw [List.drop_eq_nil_of_le (by omega), List.drop_eq_nil_of_le (by omega)])
                  by_cases hj3 : j < 3
                  · obtain rfl : p = false := by
                      cases p
                      · rfl
                      · exact absurd ⟨hj3, rfl⟩ hjp
                    have hj3i : (j : Int) < 3 := by omega
                    clear hjp
                    go_wp2
                    go_roundg (R - K)
                    case measure => omega
                    case rel =>
                      refine ⟨A2, cS - K, N3, rest.drop 3, outl ++ grp al false g, rfl, by omega, ?_, ?_, ?_, ?_, ?_, HB3a.out⟩
                      · have h := HCR.out
                        rw [Nat.mul_one, ← bys_drop, hrd.out] at h
                        exact h
                      · rw [HE.out.1, encL_step al false rest (by intro e; have := HR.out.len; rw [e] at this; simp at this; omega), ← HG.out.1, List.append_assoc]
                      · have h := HO3a.out.1
                        rw [← hfin.out]
                        rw [bys_length] at h
                        omega
                      · have := hHN3.out; have := hHN.out; have := HK.out; omega
                      · rw [← hfin.out]; exact HO3a.out
                  · have hj3i : ¬ (j : Int) < 3 := by omega
                    clear hjp
                    go_wp2
                    go_roundg (R - K)
                    case measure => omega
                    case rel =>
                      refine ⟨A2, cS - K, N3, rest.drop 3, outl ++ grp al p g, rfl, by omega, ?_, ?_, ?_, ?_, ?_, HB3a.out⟩
                      · have h := HCR.out
                        rw [Nat.mul_one, ← bys_drop, hrd.out] at h
                        exact h
                      · rw [HE.out.1, encL_step al p rest (by intro e; have := HR.out.len; rw [e] at this; simp at this; omega), ← HG.out.1, List.append_assoc]
                      · have h := HO3a.out.1
                        rw [← hfin.out]
                        rw [bys_length] at h
                        omega
                      · have := hHN3.out; have := hHN.out; have := HK.out; omega
                      · rw [← hfin.out]; exact HO3a.out
end Go.Proofs.Ytimicibalhaljaa.B64
