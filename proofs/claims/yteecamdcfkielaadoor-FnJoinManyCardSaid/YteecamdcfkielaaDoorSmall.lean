/- Walks of the small functions that the key wrap calls; no condition. -/
import Derived.Test.YteecamdcfkielaaDoorEncr
set_option linter.unusedVariables false
set_option linter.unusedSimpArgs false
namespace Go.Proofs.YteecamdcfkielaaDoor.Wr
open Go.RowKit Go.Proofs.YteecamdcfkielaaDoor.K Go.Proofs.YteecamdcfkielaaDoor.Own
/-- A byte goes into a block. -/
theorem wpList_put {P : Program} {ops : Array Oper} {rest : List Oper} {o : Oper} {a : Act} {w w0 : World} {Q : Exit → Act → World → Prop} (hP : P = Tryd.prog) (hgd : o.guard = none) (x y : Operand) (ho : o.op = .store 5 x y)
    (g i : Nat) (hx : a.eval x = .pointer (some ⟨g, i, none⟩)) (n : Int) (hy : a.eval y = .int .u8 n) (cs : Array Value) (hb : Blk w g 5 cs) (hi : i < cs.size) (hg : w0.grownBy w (some g))
    (h : ∀ w', Blk w' g 5 (cs.setIfInBounds i (.int .u8 n)) → w0.grownBy w' (some g) → wpList P ops Q rest (a.put o.dst undef) w') : wpList P ops Q (o :: rest) a w := by
  subst hP
  refine wpList_plain hgd fun K hK => ?_
  have hf := hb.frozen i
  have hc := hb.cell i
  rw [Array.getElem?_eq_getElem hi] at hc
  have hq := h _ (hb.set_ i (.int .u8 n)) (grown_trans hg (setCell_grown w ⟨g, i, none⟩ (.int .u8 n)))
  have hk := hK _ _ hq
  clear hK hq h
  unfold Oper.wp execOp
  simp only [ho, hx, hy]
  go_simp
  exact hk
set_option maxRecDepth 100000 in
set_option maxHeartbeats 2000000 in
theorem PutUint64_calls (w : World) (g v : Nat) (old : List UInt8) (hv : v < 18446744073709551616) (h : old.length = 8) (hb : Blk w g 5 (bys old).toArray) :
    Calls Tryd.prog 22 #[.agg #[], .slice (some ⟨g, 0, none⟩) 8 8, .int .u64 v] w fun e w' => e = .returned (.tuple #[]) ∧ Blk w' g 5 (bys (b8 v)).toArray ∧ w.grownBy w' (some g) := by
  have hgl := hb.lt
  have hc := hb.cell 7
  rw [arr_at _ _ (by omega)] at hc
  have hsz : (bys old).toArray.size = 8 := by simp [bys, h]
  have hB0 := hb.alloc (.cells #[] 55)
  have hG0 := World.grownBy_alloc w (.cells #[] 55) (some g)
  clear hb
  have hend : (((((((((bys old).toArray.setIfInBounds 0 (.int .u8 ((v : Int) / 72057594037927936))).setIfInBounds 1 (.int .u8 ((v : Int) / 281474976710656 % 256))).setIfInBounds 2 (.int .u8 ((v : Int) / 1099511627776 % 256))).setIfInBounds 3 (.int .u8 ((v : Int) / 4294967296 % 256))).setIfInBounds 4 (.int .u8 ((v : Int) / 16777216 % 256))).setIfInBounds 5 (.int .u8 ((v : Int) / 65536 % 256))).setIfInBounds 6 (.int .u8 ((v : Int) / 256 % 256))).setIfInBounds 7 (.int .u8 ((v : Int) % 256))) = (bys (b8 v)).toArray := by
    match old, h with
    | [a0, a1, a2, a3, a4, a5, a6, a7], _ => simp [bys, b8, byte, List.range_succ]; omega
  have HEND := Lib.hid hend
  have HSZ := Lib.hid hsz
  clear hend hsz
  go_enter Tryd.func22, Tryd.ntmps22
  go_wp2_with (refine wpList_put rfl rfl _ _ rfl g _ rfl _ rfl _ (by with_reducible assumption) (by simp only [Array.size_setIfInBounds, HSZ.out]; decide) (by with_reducible assumption) ?_; intro w1 hb1 hg1)
  refine ⟨rfl, .tuple #[], by kernel_rfl, rfl, ?_, by with_reducible assumption⟩
  rw [← HEND.out]
  with_reducible assumption
theorem keywrapDefaultIV_calls (w : World) : Calls Tryd.prog 21 #[] w fun e w' => e = .returned (.slice (some ⟨w.heap.size, 0, none⟩) 8 8) ∧ w' = w.alloc (.cells (bys (List.replicate 8 166)).toArray 5) := by
  go_enter Tryd.func21, Tryd.ntmps21
  go_wp2
  go_ret
  exact ⟨rfl, rfl⟩
theorem New_calls (w : World) (s : ByteArray) : Calls Tryd.prog 20 #[.string s] w fun e w' => ∃ p, e = .returned (.iface 65 (.pointer p)) ∧ Below w.heap.size w w' := by
  go_enter Tryd.func20, Tryd.ntmps20
  go_wp2
  go_ret
  exact ⟨_, rfl, below_alloc' (Below.refl _ _) _⟩
theorem bytes_or (x a b : UInt8) : (x ||| (a ^^^ b) = 0) ↔ (x = 0 ∧ a = b) := by
  rw [UInt8.or_eq_zero_iff, UInt8.xor_eq_zero_iff]
theorem ByteEq_calls (w : World) (x : UInt8) : Calls Tryd.prog 32 #[.int .u8 (x.toNat : Nat), .int .u8 0] w fun e w' => e = .returned (.int .i64 (if x = 0 then 1 else 0)) ∧ w = w' := by
  have hx := x.toNat_lt
  have h1 : ∀ (W : World), (callFunc 33 #[.bool true]).run Tryd.prog W = .ok (.value (.int .u8 1)) W := fun W => by kernel_rfl
  have h0 : ∀ (W : World), (callFunc 33 #[.bool false]).run Tryd.prog W = .ok (.value (.int .u8 0)) W := fun W => by kernel_rfl
  by_cases hz : x = 0
  · subst hz
    go_enter Tryd.func32, Tryd.ntmps32
    go_wp2
    go_ret
    exact ⟨by simp, rfl⟩
  · have hq : ((x.toNat : Int) == 0) = false := by
      simp only [beq_eq_false_iff_ne, ne_eq]
      intro h
      exact hz (UInt8.toNat_inj.1 (by simpa using Int.ofNat.inj h))
    go_enter Tryd.func32, Tryd.ntmps32
    go_wp2
    go_ret
    exact ⟨by simp [hz], rfl⟩
/-- The bytes' difference so far. -/
def diff (l m : List UInt8) (k : Nat) : UInt8 := ((List.range k).foldl (fun v i => v ||| (bt l i ^^^ bt m i)) 0)
theorem diff_succ (l m : List UInt8) (k : Nat) : diff l m (k + 1) = diff l m k ||| (bt l k ^^^ bt m k) := by simp [diff, List.range_succ]
theorem diff_step (l m : List UInt8) (k : Nat) : bits .or .u8 ((diff l m k).toNat : Int) (bits .xor .u8 ((bt l k).toNat : Int) ((bt m k).toNat : Int)) = ((diff l m (k + 1)).toNat : Int) := by
  have h1 := (bt l k).toNat_lt
  have h2 := (bt m k).toNat_lt
  have h3 := (diff l m k).toNat_lt
  rw [u8_xor_nat _ _ h1 h2, ← UInt8.toNat_xor, u8_or_nat _ _ h3 (UInt8.toNat_lt _), ← UInt8.toNat_or, diff_succ]
theorem diff_zero (l m : List UInt8) : ∀ k, diff l m k = 0 ↔ ∀ i, i < k → bt l i = bt m i
  | 0 => by simp [diff]
  | k + 1 => by
    rw [diff_succ, bytes_or, diff_zero l m k]
    constructor
    · intro h i hi
      rcases Nat.lt_succ_iff_lt_or_eq.1 hi with h1 | rfl
      · exact h.1 i h1
      · exact h.2
    · intro h
      exact ⟨fun i hi => h i (by omega), h k (by omega)⟩
theorem diff_all (l m : List UInt8) (n : Nat) (hl : l.length = n) (hm : m.length = n) : diff l m n = 0 ↔ l = m := by
  rw [diff_zero]
  constructor
  · intro h
    refine List.ext_getElem (by omega) (fun i h1 h2 => ?_)
    have := h i (by omega)
    rwa [bt_get l i h1, bt_get m i h2] at this
  · rintro rfl i _
    rfl
theorem Compare_calls (w : World) (A B : Option Addr) (l m : List UInt8) (n c d : Nat) (h : RB w A n l) (h' : RB w B n m) (hn : n ≤ 1000000) :
    Calls Tryd.prog 29 #[.slice A n c, .slice B n d] w fun e w' => e = .returned (.int .i64 (if l = m then 1 else 0)) ∧ ∃ k, w' = w.drewN k := by
  obtain ⟨r, hr⟩ : ∃ r : Int, r = (if l = m then 1 else 0) := ⟨_, rfl⟩
  rw [← hr]
  have HR := Lib.hid hr
  clear hr
  have hlen := h.len
  have hlen' := h'.len
  have HL := Lib.hid hlen
  have HM := Lib.hid hlen'
  clear hlen hlen'
  go_enter Tryd.func29, Tryd.ntmps29
  go_wp2
  go_loopw [5, 6] (fun v i wr => ∃ k : Nat, k ≤ n ∧ i = .int .i64 k ∧ v = .int .u8 ((diff l m k).toNat : Nat) ∧ ∃ j, wr = w.drewN j) (fun v i _ => n - (intOf i).toNat)
  case atStart => exact ⟨0, Nat.zero_le _, rfl, rfl, 0, rfl⟩
  case round =>
    obtain ⟨k, hk, rfl, rfl, j, hw⟩ := hrel
    by_cases hlt : k < n
    · obtain ⟨ad, rfl, hc1⟩ := h.bt hlt
      obtain ⟨ad2, rfl, hc2⟩ := h'.bt hlt
      have b1 := bt_lt l k
      have b2 := bt_lt m k
      have hst := Lib.hid (diff_step l m k)
      go_wp2
      go_quiet (fail)
      rw [hst.out]
      go_wp2
      go_roundw
      case rel => exact ⟨k + 1, by omega, by go_num, rfl, j + nq, by simp [World.drewN, Nat.add_assoc]⟩
      case measure => simp [intOf]; omega
    · have hkn : k = n := by omega
      have HKN := Lib.hid hkn
      have hda := diff_all l m k (by rw [hkn]; exact HL.out.symm) (by rw [hkn]; exact HM.out.symm)
      have hb := ByteEq_calls wr (diff l m k)
      rw [show (if diff l m k = 0 then (1 : Int) else 0) = r by rw [HR.out]; simp [hda]] at hb
      have hbe := Lib.hid hb
      clear hkn hb hda
      have HW := Lib.hid hw
      clear hw
      go_wp2_with (go_at_call 32; refine hbe.out.mono ?_; rintro e w2 ⟨rfl, rfl⟩)
      go_ret
      exact ⟨rfl, j, HW.out⟩
theorem CTCompare_calls (w : World) (A B : Option Addr) (l m : List UInt8) (n c d : Nat) (h : RB w A n l) (h' : RB w B n m) (hn : n ≤ 1000000) :
    Calls Tryd.prog 27 #[.slice A n c, .slice B n d] w fun e w' => e = .returned (.int .i64 (if l = m then 1 else 0)) ∧ ∃ k, w' = w.drewN k := by
  have hc := Compare_calls w A B l m n c d h h' hn
  obtain ⟨r, hr⟩ : ∃ r : Int, r = (if l = m then 1 else 0) := ⟨_, rfl⟩
  rw [← hr] at hc ⊢
  clear hr
  have HC := Lib.hid hc
  clear hc
  go_enter Tryd.func27, Tryd.ntmps27
  go_wp2_with (go_at_call 29; refine HC.out.mono ?_; rintro e w1 ⟨rfl, hk⟩)
  go_ret
  exact ⟨rfl, hk⟩
end Go.Proofs.YteecamdcfkielaaDoor.Wr
