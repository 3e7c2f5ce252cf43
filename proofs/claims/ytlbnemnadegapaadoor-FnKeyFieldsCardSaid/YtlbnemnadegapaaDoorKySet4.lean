/- The walk of a key set's RemoveKey; the conditions are on what lies in memory. -/
import Derived.Test.YtlbnemnadegapaaDoorKySet3
import Derived.Deep.RegionLaw
set_option linter.unusedVariables false
set_option linter.unusedSimpArgs false
namespace Go.Proofs.YtlbnemnadegapaaDoor.Ky
open Go.RowKit Go.Proofs.YtlbnemnadegapaaDoor.K Go.Proofs.YtlbnemnadegapaaDoor.Nm
/-- An append whose run is known, as one step of a region that draws. -/
theorem step_append_run {P : Program} {ops : Array Oper} {o : Oper} {a : Act} {w w' : World} {v' : Value} {K : Act → World → Prop} {Q : Exit → Act → World → Prop} {E : Prop}
    (hg : o.guard = none) (s x : Operand) (t : TypeId) (hop : o.op = Op.call { callee := Callee.builtin Builtin.append, args := #[s, x], argTypes := #[t, t] }) (v u : Value) (hs : a.eval s = v) (hx : a.eval x = u)
    (hrun : (Builtin.append_ #[t, t] o.type #[v, u]).run P w = .ok v' w') (hK : K (a.put o.dst v') w') :
    if Region.wanted o (yielded ops a.tmps) = true then Oper.wp P o a w K Q else E := by
  have hw : Region.wanted o (yielded ops a.tmps) = true := by simp [Region.wanted, hg]
  rw [if_pos hw]
  unfold Oper.wp
  simp [execOp, hop, resolve, invoke, builtin, hs, hx, hrun, Result.andThen]
  exact hK
def rm (S : List Nat) (k : Nat) : List Nat := match S.findIdx? (· == k) with | some j => S.eraseIdx j | none => S
theorem rm_at {S : List Nat} {k j : Nat} (hj : j < S.length) (h : S[j] = k) (hb : ∀ i (hi : i < S.length), i < j → S[i] ≠ k) : rm S k = S.eraseIdx j := by
  unfold rm
  rw [List.findIdx?_eq_some_iff_getElem.2 ⟨hj, by simpa using h, fun i hi => by simpa using hb i (by omega) hi⟩]
theorem rm_not {S : List Nat} {k : Nat} (h : k ∉ S) : rm S k = S := by
  unfold rm
  rw [List.findIdx?_eq_none_iff.2 (fun x hx => by simp; rintro rfl; exact h hx)]
theorem first_at : ∀ (S : List Nat) (k : Nat), k ∈ S → ∃ j, ∃ h : j < S.length, S[j] = k ∧ ∀ i (hi : i < S.length), i < j → S[i] ≠ k
  | x :: S, k, h => by
    by_cases e : x = k
    · exact ⟨0, by simp, e, fun i _ h => absurd h (by omega)⟩
    · obtain ⟨j, hj, h1, h2⟩ := first_at S k (by rcases List.mem_cons.1 h with h | h; exact absurd h.symm e; exact h)
      refine ⟨j + 1, by simpa using hj, by simpa using h1, fun i hi hij => ?_⟩
      cases i with
      | zero => exact e
      | succ i => exact h2 i (by simpa using hi) (by omega)
section
variable {Q : ByteArray → Prop} {base g : Nat} {w w' : World} {S : List Nat}
theorem KL.drew {E : TypeId} {v : Value} {xs : List Value} (h : KL w base E v xs) : KL w.drew base E v xs := h.below (Below.refl _ _).drew
set_option maxRecDepth 100000 in
set_option maxHeartbeats 2000000 in
theorem RemoveKey_no (h : SetAt Q base w g S) (k : Nat) (hk : KeysIn w (k :: S)) (hn : S.length < 500) (hbase : base ≤ w.heap.size) (hkS : k ∉ S) :
    Calls Tryd.prog 132 #[.pointer (some ⟨g, 0, none⟩), keyV k] w (Did Q base g false S w) := by
  have HSA := Lib.hid h
  obtain ⟨v, m, hK, hM, hbg, hbm⟩ := h
  obtain ⟨A, c, rfl, hlc, _⟩ := hK.2.len
  obtain ⟨c0, c1⟩ := hK.cells
  have HK := Lib.hid hK.2
  rw [List.length_map] at c0
  obtain ⟨n, hn2⟩ : ∃ n, n = S.length := ⟨_, rfl⟩
  rw [← hn2] at c0
  have HN := Lib.hid hn2
  have HE := Lib.hid (fun s => errNew_calls w s)
  clear hK hM hlc hn2
  go_enter Tryd.func132, Tryd.ntmps132
  go_wp2
  go_loopg [12] n (fun q u wr => ∃ j : Nat, q + j = n ∧ u = .int .i64 j ∧ wr = w)
  case atStart => exact ⟨0, rfl, rfl, rfl⟩
  case round =>
    obtain ⟨j, hqj, rfl, hw⟩ := hrel
    subst hw
    by_cases hj : j < n
    · have hjl : j < S.length := by rw [← HN.out]; exact hj
      obtain ⟨b, off, c', he, hcell⟩ := HK.out.at_ (j := j) (by simpa using hjl)
      injection he with he1 he2 he3
      subst he1
      rw [List.getElem_map] at hcell
      obtain ⟨x, hx⟩ : ∃ x, x = S[j] := ⟨_, rfl⟩
      rw [← hx] at hcell
      have hxS : x ∈ S := by rw [hx]; exact List.getElem_mem _
      obtain ⟨cx, hcx⟩ := hk x (List.mem_cons_of_mem _ hxS)
      obtain ⟨ck, hck⟩ := hk k (by simp)
      have hke := keys_eq hcx hck
      have hxk : x ≠ k := fun e => hkS (e ▸ hxS)
      rw [decide_eq_false hxk] at hke
      clear hx he2 hcx hck hxk hxS
      go_wp2
      go_roundg (n - (j + 1))
      case measure => omega
      case rel => exact ⟨j + 1, by omega, by go_num, rfl⟩
    · obtain rfl : j = n := by omega
      go_wp2_with fail
      refine (HE.out _).mono ?_
      rintro e w2 ⟨⟨T, u, rfl⟩, hb⟩
      have HB := Lib.hid hb
      clear hb HE
      go_wp2
      go_ret
      exact ⟨_, rfl, .inr ⟨⟨T, u, rfl⟩, rfl⟩, HSA.out.below HB.out, Fw.of_below HB.out hbase⟩
set_option maxRecDepth 100000 in
set_option maxHeartbeats 4000000 in
theorem RemoveKey_yes (h : SetAt Q base w g S) (k : Nat) (hk : KeysIn w (k :: S)) (hn : S.length < 500) (hbase : base ≤ w.heap.size) (hkS : k ∈ S) :
    Calls Tryd.prog 132 #[.pointer (some ⟨g, 0, none⟩), keyV k] w (Did Q base g true (rm S k) w) := by
  obtain ⟨i0, hi, hz0, hz1, hz2⟩ := info_parts infoKey
  obtain ⟨j, hjl, hjk, hjb⟩ := first_at S k hkS
  rw [rm_at hjl hjk hjb]
  obtain ⟨v, m, hK, hM, hbg, hbm⟩ := h
  obtain ⟨A, c, rfl, hlc, _⟩ := hK.2.len
  obtain ⟨c0, c1⟩ := hK.cells
  have f0 := hK.1.frozen 0
  have HK := Lib.hid hK
  have HM := Lib.hid (And.intro hM (And.intro hbg hbm))
  have HJ := Lib.hid (And.intro hjk hjb)
  have HI := Lib.hid (And.intro hi (And.intro hz0 (And.intro hz1 hz2)))
  rw [List.length_map] at c0
  obtain ⟨n, hn2⟩ : ∃ n, n = S.length := ⟨_, rfl⟩
  rw [← hn2] at c0
  have HN := Lib.hid hn2
  have hjn : j < n := by omega
  have hn5 : n < 500 := by omega
  have hnc : n ≤ c := by rw [hn2]; simpa using hlc
  clear hK hM hlc hn2 hjk hjb hi hz0 hz1 hz2
  go_enter Tryd.func132, Tryd.ntmps132
  go_wp2
  go_loopg [12] j (fun q u wr => ∃ i : Nat, q + i = j ∧ u = .int .i64 i ∧ wr = w)
  case atStart => exact ⟨0, rfl, rfl, rfl⟩
  case round =>
    obtain ⟨i, hqj, rfl, hw⟩ := hrel
    subst hw
    have hil : i < S.length := by rw [← HN.out]; omega
    have hin : i < n := by omega
    obtain ⟨b, off, c', he, hcell⟩ := HK.out.2.at_ (j := i) (by simpa using hil)
    injection he with he1 he2 he3
    subst he1
    subst he3
    rw [List.getElem_map] at hcell
    obtain ⟨x, hx⟩ : ∃ x, x = S[i] := ⟨_, rfl⟩
    rw [← hx] at hcell
    have hxS : x ∈ S := by rw [hx]; exact List.getElem_mem _
    obtain ⟨cx, hcx⟩ := hk x (List.mem_cons_of_mem _ hxS)
    obtain ⟨ck, hck⟩ := hk k (by simp)
    have hke := keys_eq hcx hck
    by_cases hij : i < j
    · have hxk : x ≠ k := by rw [hx]; exact HJ.out.2 i hil hij
      rw [decide_eq_false hxk] at hke
      clear hx he2 hcx hck hxk hxS
      go_wp2
      go_roundg (j - (i + 1))
      case measure => omega
      case rel => exact ⟨i + 1, by omega, by go_num, rfl⟩
    · obtain rfl : i = j := by omega
      have hxk : x = k := by rw [hx]; exact HJ.out.1
      rw [decide_eq_true hxk] at hke
      clear hx he2 hcx hck hxk hxS
      by_cases hi0 : i = 0
      · subst hi0
        rw [Nat.add_zero] at hcell
        obtain ⟨y, S', rfl⟩ : ∃ y S', S = y :: S' := by
          cases S with
          | nil => simp at hil
          | cons y S' => exact ⟨y, S', rfl⟩
        have hkl := HK.out.2
        rw [List.map_cons, show (keyV y :: S'.map keyV).length = n by rw [HN.out]; simp] at hkl
        obtain ⟨b2, off2, he4, hnl, hkl'⟩ := KL.tail (keyV y) hkl
        injection he4 with he4
        injection he4 with he5 he6
        subst he5
        subst he6
        obtain ⟨A2, hA2⟩ : ∃ A2, A2 = (if c = 1 then some (⟨b, off, none⟩ : Addr) else some ⟨b, off + 1, none⟩) := ⟨_, rfl⟩
        rw [← hA2] at hkl'
        have HS := Lib.hid (show SetAt Q base (wr.setCell ⟨g, 0, none⟩ (.slice A2 (n - 1) (c - 1))) g S' ∧ Fw base wr (wr.setCell ⟨g, 0, none⟩ (.slice A2 (n - 1) (c - 1))) from
          ⟨⟨_, m, ⟨HK.out.1.set_ 0 _, hkl'.setCell HK.out.1 (by decide) _⟩, HM.out.1.fr (Fr.setCell (bad := badSK) HK.out.1 (.inl rfl) _), HM.out.2⟩,
            Fw.of_fr ((Below.refl base wr).setCell (by show base ≤ g; exact HM.out.2.1) _) (Fr.setCell (bad := badSK) HK.out.1 (.inl rfl) _)⟩)
        clear hkl hkl' hnl
        by_cases hc : c = 1
        · rw [if_pos hc] at hA2
          have hcb : n - 1 = 0 := by omega
          rw [hA2, hcb] at HS
          clear hcb
          subst hc
          clear hA2
          go_wp2
          go_ret
          exact ⟨_, rfl, .inl ⟨rfl, rfl⟩, HS.out.1, HS.out.2⟩
        · rw [if_neg hc] at hA2
          rw [hA2] at HS
          clear hA2
          go_wp2
          go_ret
          exact ⟨_, rfl, .inl ⟨rfl, rfl⟩, HS.out.1, HS.out.2⟩
      · have hin1 : ((i : Int) == 0) = false := by simp; omega
        have hin0 : ¬ ((i : Int) = 0) := by omega
        by_cases hil1 : i = n - 1
        · have hkl' := HK.out.2
          rw [show (S.map keyV).length = n by rw [HN.out]; simp] at hkl'
          have hkl' := hkl'.take i (by simp; omega)
          have htk : (S.map keyV).take i = (S.eraseIdx i).map keyV := by
            rw [← List.map_take]
            congr 1
            rw [List.eraseIdx_eq_take_drop_succ, List.drop_of_length_le (by rw [← HN.out]; omega), List.append_nil]
          rw [htk] at hkl'
          have HS := Lib.hid (show SetAt Q base (wr.setCell ⟨g, 0, none⟩ (.slice (some ⟨b, off, none⟩) i c)) g (S.eraseIdx i) ∧ Fw base wr (wr.setCell ⟨g, 0, none⟩ (.slice (some ⟨b, off, none⟩) i c)) from
            ⟨⟨_, m, ⟨HK.out.1.set_ 0 _, hkl'.setCell HK.out.1 (by decide) _⟩, HM.out.1.fr (Fr.setCell (bad := badSK) HK.out.1 (.inl rfl) _), HM.out.2⟩,
              Fw.of_fr ((Below.refl base wr).setCell (by show base ≤ g; exact HM.out.2.1) _) (Fr.setCell (bad := badSK) HK.out.1 (.inl rfl) _)⟩)
          have hin2 : ((i : Int) == (n : Int) - 1) = true := by simp; omega
          have hic : i ≤ c := by omega
          clear hkl' htk hil1 hi0
          go_wp2
          go_ret
          exact ⟨_, rfl, .inl ⟨rfl, rfl⟩, HS.out.1, HS.out.2⟩
        · have hin2 : ((i : Int) == (n : Int) - 1) = false := by simp; omega
          have hin3 : ¬ ((i : Int) = (n : Int) - 1) := by omega
          have hkd := KL.drew HK.out.2
          obtain ⟨b2, off2, c2, he4, w2, hrun, hkl2, hfr, hbel⟩ := KL.erase 84 84 i0 Tryd.underlying84 HI.out.1 HI.out.2.2.1 hkd (by intro x hx; obtain ⟨y, _, rfl⟩ := List.mem_map.1 hx; rfl) i (by rw [List.length_map, ← HN.out]; omega) (show base ≤ wr.drew.heap.size from hbase)
          injection he4 with e1 e2 e3
          injection e1 with e1
          injection e1 with e1 e4
          subst e1
          subst e4
          subst e3
          have hln : (S.map keyV).length = n := by rw [HN.out]; simp
          rw [hln] at hrun hkl2
          have hbs2 := hfr.blk (show Blk wr.drew g 153 _ from HK.out.1) (by decide)
          have c2' : w2.cell? ⟨g, 0, none⟩ = some (.slice (some ⟨b, off, none⟩) n c) := by rw [hbs2.cell, hln]; rfl
          have f2 := hbs2.frozen 0
          have HS := Lib.hid (show SetAt Q base (w2.setCell ⟨g, 0, none⟩ (.slice (some ⟨b, off, none⟩) (n - 1) c)) g (S.eraseIdx i) ∧ Fw base wr (w2.setCell ⟨g, 0, none⟩ (.slice (some ⟨b, off, none⟩) (n - 1) c)) from
            ⟨⟨_, m, ⟨hbs2.set_ 0 _, by
                have e : (S.map keyV).eraseIdx i = (S.eraseIdx i).map keyV := by rw [List.eraseIdx_eq_take_drop_succ, List.eraseIdx_eq_take_drop_succ, List.map_append, List.map_take, List.map_drop]
                rw [← e]
                exact hkl2.setCell hbs2 (by decide) _⟩, ((HM.out.1.fr (Fr.refl (bad := badSK) wr).drew).fr hfr).fr (Fr.setCell (bad := badSK) hbs2 (.inl rfl) _), HM.out.2⟩,
              Fw.of_fr (((Below.refl base wr).drew.trans hbel).setCell (by show base ≤ g; exact HM.out.2.1) _) (((Fr.refl (bad := badSK) wr).drew.trans (hfr.mono (fun T e => .inr e))).trans (Fr.setCell (bad := badSK) hbs2 (.inl rfl) _))⟩)
          have HR := Lib.hid hrun
          have hic : i ≤ c := by omega
          have hic1 : i + 1 ≤ n := by omega
          have hic2 : ¬ c = i + 1 := by omega
          have hwr : IntKind.i64.wrap ((i : Int) + 1) = (i : Int) + 1 := by rw [IntKind.wrap_i64]; omega
          have hp0 : (0 : Int) ≤ (i : Int) + 1 := by omega
          have hp1 : (i : Int) + 1 ≤ (n : Int) := by omega
          have hp2 : ((i : Int) + 1).toNat = i + 1 := by omega
          clear hkd hrun hkl2 hfr hbel hbs2 hln
          go_wp2_with fail
          go_region_law (refine step_append_run rfl (.tmp 27) (.tmp 34) 84 rfl _ _ (by simp [Act.eval, Act.put]) (by simp [Act.eval, Act.put]) HR.out ?_)
          all_goals
            go_wp2
            go_ret
            exact ⟨_, rfl, .inl ⟨rfl, rfl⟩, HS.out.1, HS.out.2⟩
end
end Go.Proofs.YtlbnemnadegapaaDoor.Ky
