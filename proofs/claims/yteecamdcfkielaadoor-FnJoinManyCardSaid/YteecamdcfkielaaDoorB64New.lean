/- The walk of base64.NewEncoding on an alphabet; no condition beyond the alphabet's own. -/
import Derived.Test.YteecamdcfkielaaDoorOwn
import Derived.Lib.LazyBuf
import Derived.Great.Walk
import Derived.StillTailTactics
set_option linter.unusedVariables false
set_option linter.unusedSimpArgs false
namespace Go.Proofs.YteecamdcfkielaaDoor.B64
open Go.RowKit Go.Proofs.YteecamdcfkielaaDoor.K Go.Proofs.YteecamdcfkielaaDoor.Own
/-- 'copy(dst, s)' of a string no longer than the place. -/
theorem wpList_copy_str {P : Program} {ops : Array Oper} {rest : List Oper} {o : Oper} {a : Act} {w : World} {Q : Exit → Act → World → Prop} (hgd : o.guard = none) (d s : Operand) (dT sT : TypeId)
    (ho : o.op = .call { callee := .builtin .copy, args := #[d, s], argTypes := #[dT, sT] }) (elem : TypeId) (hu : P.underlying dT = some (.slice elem)) (hsz : (P.info? elem).map (·.size) = some 1)
    (g off dLen dCap : Nat) (str : List UInt8) (hd : a.eval d = .slice (some ⟨g, off, none⟩) dLen dCap) (hs : a.eval s = .string ⟨str.toArray⟩)
    (cur : List Value) (t : TypeId) (hg : Blk w g t cur.toArray) (hle : str.length ≤ dLen) (hfit : off + str.length ≤ cur.length) (res : List Value) (hres : splice cur off (bys str) = res)
    (h : ∀ w', Blk w' g t res.toArray → w.grownBy w' (some g) → w'.heap.size = w.heap.size → wpList P ops Q rest (a.put o.dst (goInt str.length)) w') : wpList P ops Q (o :: rest) a w := by
  subst hres
  have hst := run_storeCells_at P g off t (bys str) 0 cur.toArray w hg (by simpa [bys] using hfit) (bys_one str)
  refine wpList_plain hgd fun K hK => ?_
  have hmin : Nat.min str.length dLen = str.length := Nat.min_eq_left hle
  have hq := hK _ _ (h _ (setRow_heap w g _ (splice cur off (bys str)).toArray t _ hg) (setRow_grown w g _) (by simp [World.setRow]))
  cases hi : P.info? elem with
  | none => simp [hi] at hsz
  | some i =>
    have hi1 : i.size = 1 := by simpa [hi] using hsz
    have hrun : (Builtin.copy_ #[dT, sT] o.type #[.slice (some ⟨g, off, none⟩) dLen dCap, .string ⟨str.toArray⟩]).run P w = .ok (goInt str.length) (w.setRow g (splice cur off (bys str)).toArray) := by
      have e : (⟨str.toArray⟩ : ByteArray).size = str.length := by simp [ByteArray.size]
      have e2 : (str.toArray.toList.map fun x => Value.int .u8 (x.toNat : Int)).take str.length = bys str := by
        rw [List.take_of_length_le (by simp)]
        simp [bys]
      simp only [Nat.add_zero] at hst
      simp [Builtin.copy_, run_underlying hu, Builtin.lenOf, Builtin.firstCells, sizeOf, typeInfo, hi, hi1, e, hmin]
      have e3 : List.take str.length (List.map (fun b : UInt8 => Value.int .u8 (b.toNat : Int)) str) = bys str := by
        rw [List.take_of_length_le (by simp)]
        rfl
      rw [e3, hst]
      simp [splice, Result.andThen]
    unfold Oper.wp execOp
    simp [ho, resolve, invoke, builtin, hd, hs, hrun, Result.andThen]
    exact hq
/-- The next operation is a store: a quick look. -/
theorem st_at {P : Program} {ops : Array Oper} {rest : List Oper} {d : Option Tmp} {ty type : TypeId} {pos : String} {after : Array Edge} {guard : Option (Nat × Bool)} {y : Operand} {a : Act} {w : World} {Q : Exit → Act → World → Prop} (x : Operand)
    (h : wpList P ops Q (⟨d, .store ty x y, type, pos, after, guard⟩ :: rest) a w) : wpList P ops Q (⟨d, .store ty x y, type, pos, after, guard⟩ :: rest) a w := h
/-- A byte goes into a block. -/
theorem wpList_put {P : Program} {T : TypeId} {ops : Array Oper} {rest : List Oper} {o : Oper} {a : Act} {w w0 : World} {Q : Exit → Act → World → Prop} (hP : P = Tryd.prog) (hgd : o.guard = none) (x y : Operand) (ho : o.op = .store 5 x y)
    (g i : Nat) (hx : a.eval x = .pointer (some ⟨g, i, none⟩)) (n : Int) (hy : a.eval y = .int .u8 n) (cs : Array Value) (hb : Blk w g T cs) (hi : i < cs.size) (hg : w0.grownBy w (some g))
    (h : ∀ w', Blk w' g T (cs.setIfInBounds i (.int .u8 n)) → w0.grownBy w' (some g) → wpList P ops Q rest (a.put o.dst undef) w') : wpList P ops Q (o :: rest) a w := by
  subst hP
  refine wpList_plain hgd fun K hK => ?_
  have hf := hb.frozen i
  have hc := hb.cell i
  rw [Array.getElem?_eq_getElem hi] at hc
  have hq := h _ (hb.set_ i (.int .u8 n)) (grown_trans hg (setCell_grown w ⟨g, i, none⟩ (.int .u8 n)))
  have hk := hK _ _ hq
  clear hK hq h
  unfold Oper.wp execOp
  simp only [ho, hx, hy]
  go_simp
  exact hk
def dmap (al : List UInt8) : Nat → List UInt8
  | 0 => List.replicate 256 255
  | k + 1 => (dmap al k).set (bt al k).toNat (UInt8.ofNat k)
theorem dmap_len (al : List UInt8) : ∀ k, (dmap al k).length = 256
  | 0 => by rw [dmap, List.length_replicate]
  | k + 1 => by rw [dmap, List.length_set, dmap_len al k]
/-- The cells of an encoding. -/
def encC (al dm : List UInt8) (pad : Int) : List Value := bys al ++ (bys dm ++ [.int .i32 pad, .bool false])
theorem encC_len (al dm : List UInt8) (pad : Int) (h1 : al.length = 64) (h2 : dm.length = 256) : (encC al dm pad).length = 322 := by simp [encC, bys, h1, h2]
theorem splice_al (al0 al dm : List UInt8) (pad : Int) (h : al0.length = al.length) : splice (encC al0 dm pad) 0 (bys al) = encC al dm pad := by
  unfold splice encC
  rw [List.take_zero, List.nil_append, Nat.zero_add, bys_length, List.drop_append, List.drop_eq_nil_of_le (by rw [bys_length]; omega), bys_length, ← h, Nat.sub_self, List.drop_zero, List.nil_append]
theorem splice_dm (al dm0 dm : List UInt8) (pad : Int) (h : dm0.length = dm.length) (ha : al.length = 64) : splice (encC al dm0 pad) 64 (bys dm) = encC al dm pad := by
  unfold splice encC
  rw [List.take_append_of_le_length (by rw [bys_length]; omega), List.take_of_length_le (by rw [bys_length]; omega), List.drop_append, List.drop_eq_nil_of_le (by simp only [bys_length]; omega), List.nil_append, bys_length, bys_length, ha]
  rw [show 64 + dm.length - 64 = dm.length by omega, List.drop_append, List.drop_eq_nil_of_le (by rw [bys_length]; omega), bys_length, h, Nat.sub_self, List.drop_zero, List.nil_append]
theorem encC_at (al dm : List UInt8) (pad : Int) (c : Nat) (ha : al.length = 64) (hd : dm.length = 256) (hc : c < 256) : (encC al dm pad).toArray[64 + c]? = some (.int .u8 (bt dm c).toNat) := by
  rw [List.getElem?_toArray, encC, List.getElem?_append_right (by rw [bys_length]; omega), bys_length, ha, Nat.add_sub_cancel_left, List.getElem?_append_left (by rw [bys_length]; omega), bys_get _ _ (by omega), bt_get _ _ (by omega)]
theorem encC_set (al dm : List UInt8) (pad : Int) (c : Nat) (x : UInt8) (ha : al.length = 64) (hd : dm.length = 256) (hc : c < 256) : (encC al dm pad).toArray.setIfInBounds (64 + c) (.int .u8 (x.toNat : Nat)) = (encC al (dm.set c x) pad).toArray := by
  rw [List.setIfInBounds_toArray]
  congr 1
  unfold encC
  rw [List.set_append_right _ _ (by rw [bys_length]; omega), bys_length, ha, Nat.add_sub_cancel_left, List.set_append_left _ _ (by rw [bys_length]; omega)]
  simp [bys, List.map_set]
theorem zero_enc : Tryd.zeroCells78.setIfInBounds 320 (.int .i32 61) = (encC (List.replicate 64 0) (List.replicate 256 0) 61).toArray := by kernel_rfl
set_option maxRecDepth 100000 in
set_option maxHeartbeats 2000000 in
theorem NewEncoding_calls (w : World) (al : List UInt8) (hl : al.length = 64) (hok : ∀ i, i < 64 → bt al i ≠ 10 ∧ bt al i ≠ 13) (hne : ∀ i, i < 64 → bt (dmap al i) (bt al i).toNat = 255) :
    Calls Tryd.prog 30 #[.string ⟨al.toArray⟩] w fun e w' => e = .returned (.pointer (some ⟨w.heap.size, 0, none⟩)) ∧ Blk w' w.heap.size 78 (encC al (dmap al 64) 61).toArray ∧ Below w.heap.size w w' := by
  have HL := Lib.hid hl
  have hsz : (⟨al.toArray⟩ : ByteArray).size = 64 := by simp [ByteArray.size, hl]
  clear hl
  go_enter Tryd.func30, Tryd.ntmps30
  have hb0 : Blk (w.alloc (.cells (Tryd.zeroCells78.setIfInBounds 320 (.int .i32 61)) 78)) w.heap.size 78 (encC (List.replicate 64 0) (List.replicate 256 0) 61).toArray := by
    rw [← zero_enc]
    exact Blk.new _ _ _
  have HB0 := Lib.hid hb0
  have HBW := Lib.hid (below_alloc' (Below.refl w.heap.size w) (.cells (Tryd.zeroCells78.setIfInBounds 320 (.int .i32 61)) 78))
  clear hb0
  go_wp2_with (first
    | (refine wpList_copy_str rfl _ _ _ _ rfl 5 Tryd.underlying23 (by kernel_rfl) w.heap.size 0 64 64 al rfl rfl (encC (List.replicate 64 0) (List.replicate 256 0) 61) 78 HB0.out (by rw [HL.out]; decide) (by rw [HL.out, encC_len _ _ _ (by simp) (by simp)]; decide) (encC al (List.replicate 256 0) 61) (splice_al _ _ _ _ (by rw [HL.out]; simp)) ?_; intro w2 hb2 hg2 hs2; have HB2 := Lib.hid hb2; have HG2 := Lib.hid hg2; clear hb2 hg2 hs2)
    | (refine wpList_copy_str rfl _ _ _ _ rfl 5 Tryd.underlying23 (by kernel_rfl) w.heap.size 64 256 256 (List.replicate 256 255) rfl rfl (encC al (List.replicate 256 0) 61) 78 HB2.out (by simp) (by rw [encC_len _ _ _ HL.out (by simp)]; simp) (encC al (dmap al 0) 61) (splice_dm _ _ _ _ (by simp) HL.out) ?_; intro w3 hb3 hg3 hs3; have HB3 := Lib.hid hb3; have HG3 := Lib.hid hg3; clear hb3 hg3 hs3))
  have HB4 := Lib.hid ((HBW.out.trans (below_of_grown HG2.out (Nat.le_refl _) HBW.out.size)).trans (below_of_grown HG3.out (Nat.le_refl _) (HBW.out.trans (below_of_grown HG2.out (Nat.le_refl _) HBW.out.size)).size))
  have HOK := Lib.hid hok
  have HNE := Lib.hid hne
  clear HB0 HBW HB2 HG2 HG3 hok hne
  go_loopw [4] (fun i wr => ∃ k : Nat, k ≤ 64 ∧ i = .int .i64 k ∧ Hid (Blk wr w.heap.size 78 (encC al (dmap al k) 61).toArray) ∧ Hid (Below w.heap.size w wr)) (fun i _ => 64 - (intOf i).toNat)
  case atStart => exact ⟨0, Nat.zero_le _, rfl, HB3, HB4⟩
  case round =>
    clear HB3 HB4
    obtain ⟨k, hk, rfl, HB, HBB⟩ := hrel
    by_cases hlt : k < 64
    · obtain ⟨p, hp⟩ : ∃ p, p = bt al k := ⟨_, rfl⟩
      have hlk : k < al.length := by have := HL.out; omega
      have hix : (⟨al.toArray⟩ : ByteArray)[k]'(by rw [hsz]; exact hlt) = p := by
        rw [hp, bt_get _ _ hlk]
        rfl
      have hpl := p.toNat_lt
      have h10 : ((p.toNat : Int) == 10) = false := by
        rw [beq_eq_false_iff_ne]
        intro h
        refine (HOK.out k hlt).1 ?_
        rw [← hp]
        exact UInt8.toNat_inj.1 (by show _ = 10; omega)
      have h13 : ((p.toNat : Int) == 13) = false := by
        rw [beq_eq_false_iff_ne]
        intro h
        refine (HOK.out k hlt).2 ?_
        rw [← hp]
        exact UInt8.toNat_inj.1 (by show _ = 13; omega)
      have hc1 : wr.cell? ⟨w.heap.size, 64 + p.toNat, none⟩ = some (.int .u8 255) := by
        rw [HB.out.cell, encC_at _ _ _ _ HL.out (dmap_len _ _) hpl, hp, HNE.out k hlt]
        rfl
      have HP := Lib.hid hp
      clear hp
      go_wp2
      go_quiet (fail)
      go_wp2
      have HBW := Lib.hid ((HB.out.drewN nq).drewN 1)
      have HBBW := Lib.hid (K.below_drewN (K.below_drewN HBB.out nq) 1)
      have hk8 : IntKind.u8.wrap (k : Int) = (k : Int) := by
        simp [IntKind.wrap, IntKind.bits, IntKind.signed]
        omega
      have hki : (k : Int) < 64 := by omega
      have hpi : (p.toNat : Int) < 256 := by omega
      go_still_tail 9, (by kernel_rfl)
      change wpList _ _ _ _ _ (wr.drewN nq).drew
      go_wp2_with (refine wpList_put (w0 := (wr.drewN nq).drew) rfl rfl _ _ rfl w.heap.size (64 + p.toNat) rfl _ rfl _ HBW.out (by rw [List.size_toArray, encC_len _ _ _ HL.out (dmap_len _ _)]; omega) (World.grownBy.refl _ _) ?_; intro w5 hb5 hg5; have HB5 := Lib.hid hb5; have HG5 := Lib.hid hg5; clear hb5 hg5)
      go_roundw
      case rel =>
        refine ⟨k + 1, by omega, by go_num, ?_, ?_⟩
        · show Blk _ _ _ _
          have hb := HB5.out
          rw [show ((k : Nat) : Int) = ((UInt8.ofNat k).toNat : Nat) by simp; omega, encC_set _ _ _ _ _ HL.out (dmap_len _ _) hpl, HP.out] at hb
          exact hb
        · exact HBBW.out.trans (below_of_grown HG5.out (Nat.le_refl _) HBBW.out.size)
      case measure => simp [intOf]; omega
    · obtain rfl : k = 64 := by omega
      go_wp2
      go_ret
      exact ⟨rfl, HB.out, HBB.out⟩
end Go.Proofs.YteecamdcfkielaaDoor.B64
