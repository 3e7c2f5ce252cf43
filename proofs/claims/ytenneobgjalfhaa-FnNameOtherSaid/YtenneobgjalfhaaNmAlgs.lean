/- The lists of the algorithms of the registry, of their own types: they hold just what is built in; no condition. Printed by gen_algs.py. -/
import Derived.Test.YtenneobgjalfhaaNmByL
set_option linter.unusedVariables false
set_option linter.unusedSimpArgs false
namespace Go.Proofs.Ytenneobgjalfhaa.So
open Go.RowKit Go.Proofs.Ytenneobgjalfhaa.K Go.Proofs.Ytenneobgjalfhaa.Nm
theorem len3 (xs : List (ByteArray × Bool × Bool)) : (xs.flatMap f3).length = xs.length * 3 := by
  induction xs with
  | nil => rfl
  | cons x xs ih => simp only [List.flatMap_cons, List.length_append, ih, List.length_cons]; simp [f3]; omega
def Fill3 (cs : Array Value) (xs : List (ByteArray × Bool × Bool)) (k : Nat) : Prop := ∀ j (h : j < xs.length), j < k → cs[j * 3]? = some (.string xs[j].1) ∧ cs[j * 3 + 1]? = some (.bool xs[j].2.1) ∧ cs[j * 3 + 2]? = some (.bool xs[j].2.2)
def Fill2 (cs : Array Value) (xs : List (ByteArray × Bool)) (k : Nat) : Prop := ∀ j (h : j < xs.length), j < k → cs[j * 2]? = some (.string xs[j].1) ∧ cs[j * 2 + 1]? = some (.bool xs[j].2)
theorem Fill3.step {cs : Array Value} {xs : List (ByteArray × Bool × Bool)} {k : Nat} (h : Fill3 cs xs k) (hs : cs.size = xs.length * 3) (hk : k < xs.length) : Fill3 (((cs.setIfInBounds (k * 3) (.string xs[k].1)).setIfInBounds (k * 3 + 1) (.bool xs[k].2.1)).setIfInBounds (k * 3 + 2) (.bool xs[k].2.2)) xs (k + 1) := by
  intro j hj hjk
  by_cases e : j = k
  · subst e
    refine ⟨?_, ?_, ?_⟩
    · rw [Array.getElem?_setIfInBounds_ne (by omega), Array.getElem?_setIfInBounds_ne (by omega), Array.getElem?_setIfInBounds_self_of_lt (by omega)]
    · rw [Array.getElem?_setIfInBounds_ne (by omega), Array.getElem?_setIfInBounds_self_of_lt (by simp; omega)]
    · rw [Array.getElem?_setIfInBounds_self_of_lt (by simp; omega)]
  · obtain ⟨a, b, c⟩ := h j hj (by omega)
    refine ⟨?_, ?_, ?_⟩
    · rw [Array.getElem?_setIfInBounds_ne (by omega), Array.getElem?_setIfInBounds_ne (by omega), Array.getElem?_setIfInBounds_ne (by omega)]; exact a
    · rw [Array.getElem?_setIfInBounds_ne (by omega), Array.getElem?_setIfInBounds_ne (by omega), Array.getElem?_setIfInBounds_ne (by omega)]; exact b
    · rw [Array.getElem?_setIfInBounds_ne (by omega), Array.getElem?_setIfInBounds_ne (by omega), Array.getElem?_setIfInBounds_ne (by omega)]; exact c
theorem Fill2.step {cs : Array Value} {xs : List (ByteArray × Bool)} {k : Nat} (h : Fill2 cs xs k) (hs : cs.size = xs.length * 2) (hk : k < xs.length) : Fill2 ((cs.setIfInBounds (k * 2) (.string xs[k].1)).setIfInBounds (k * 2 + 1) (.bool xs[k].2)) xs (k + 1) := by
  intro j hj hjk
  by_cases e : j = k
  · subst e
    refine ⟨?_, ?_⟩
    · rw [Array.getElem?_setIfInBounds_ne (by omega), Array.getElem?_setIfInBounds_self_of_lt (by omega)]
    · rw [Array.getElem?_setIfInBounds_self_of_lt (by simp; omega)]
  · obtain ⟨a, b⟩ := h j hj (by omega)
    refine ⟨?_, ?_⟩
    · rw [Array.getElem?_setIfInBounds_ne (by omega), Array.getElem?_setIfInBounds_ne (by omega)]; exact a
    · rw [Array.getElem?_setIfInBounds_ne (by omega), Array.getElem?_setIfInBounds_ne (by omega)]; exact b
theorem Fill3.all {cs : Array Value} {xs : List (ByteArray × Bool × Bool)} (h : Fill3 cs xs xs.length) (hs : cs.size = xs.length * 3) : cs = (xs.flatMap f3 ++ []).toArray := by
  apply Array.toList_inj.1
  rw [List.append_nil]
  apply List.ext_getElem?
  intro i
  by_cases hi : i < xs.length * 3
  · have hj : i / 3 < xs.length := by omega
    obtain ⟨a, b, c⟩ := h (i / 3) hj hj
    obtain ⟨a', b', c'⟩ := flat3_at xs (i / 3) hj
    have h3 : i % 3 = 0 ∨ i % 3 = 1 ∨ i % 3 = 2 := by omega
    rw [Array.getElem?_toList]
    rcases h3 with h3 | h3 | h3
    · rw [show i = i / 3 * 3 by omega, a, a']
    · rw [show i = i / 3 * 3 + 1 by omega, b, b']
    · rw [show i = i / 3 * 3 + 2 by omega, c, c']
  · rw [List.getElem?_eq_none (by simp; omega), List.getElem?_eq_none (by rw [len3]; omega)]
theorem Fill2.all {cs : Array Value} {xs : List (ByteArray × Bool)} (h : Fill2 cs xs xs.length) (hs : cs.size = xs.length * 2) : cs = (xs.flatMap f2 ++ []).toArray := by
  apply Array.toList_inj.1
  rw [List.append_nil]
  apply List.ext_getElem?
  intro i
  by_cases hi : i < xs.length * 2
  · have hj : i / 2 < xs.length := by omega
    obtain ⟨a, b⟩ := h (i / 2) hj hj
    obtain ⟨a', b'⟩ := flat2_at xs (i / 2) hj
    have h3 : i % 2 = 0 ∨ i % 2 = 1 := by omega
    rw [Array.getElem?_toList]
    rcases h3 with h3 | h3
    · rw [show i = i / 2 * 2 by omega, a, a']
    · rw [show i = i / 2 * 2 + 1 by omega, b, b']
  · rw [List.getElem?_eq_none (by simp; omega), List.getElem?_eq_none (by rw [len2]; omega)]
set_option maxRecDepth 100000 in
set_option maxHeartbeats 4000000 in
theorem SignatureAlgorithms_calls (w : World) : Calls Try.prog 32 #[] w (LPost f3 32 tabSignature w) := by
  have HBK := Lib.hid (byKindSignature_calls w)
  have hta : ∀ (W : World) (s : ByteArray) (d y : Bool), Sem.run Try.prog (Instr.typeAssert (.iface 32 (.agg #[.string s, .bool d, .bool y])) 66 32 false) W = .ok (.agg #[.string s, .bool d, .bool y]) W := fun W s d y => by kernel_rfl
  go_enter Try.func32, Try.ntmps32
  go_wp2_with fail
  refine HBK.out.mono ?_
  rintro e w1 ⟨b, n, c, xs, rest, rfl, hx, hn, hm, hB, hbl, hb⟩
  obtain rfl : n = 16 := hn
  have hmk := mkSignature w1
  obtain ⟨W1, hW1⟩ : ∃ W1, W1 = w1.alloc (.cells zeroSignature 32) := ⟨_, rfl⟩
  have HX := Lib.hid (And.intro hx (And.intro hm hbl))
  have hb1 : Blk W1 b 66 (xs.flatMap (fun p => [vSignatureAlgorithm p]) ++ rest).toArray := by rw [hW1]; exact hb.alloc _
  have hB1 : Below w.heap.size w W1 := by rw [hW1]; exact below_alloc' hB _
  have hC1 : Blk W1 w1.heap.size 32 zeroSignature := by rw [hW1]; exact Blk.new w1 _ _
  have hne : b ≠ w1.heap.size := by have := hb.lt; omega
  have HW := Lib.hid (And.intro hB.size hne)
  rw [← hW1] at hmk
  rw [flat1] at hb1
  have HB1 := Lib.hid hb1
  have HD1 := Lib.hid hB1
  have HC1 := Lib.hid hC1
  clear hx hm hbl hb hB hb1 hB1 hC1 hne hW1 HBK
  go_wp2_with fail
  clear hmk
  go_loopw [11] (fun vi wr => ∃ k : Nat, vi = .int .i64 k ∧ k ≤ 16 ∧ Hid (Below w.heap.size w wr) ∧ Hid (Blk wr b 66 (xs.map vSignatureAlgorithm ++ rest).toArray) ∧ Hid (∃ cs, Blk wr w1.heap.size 32 cs ∧ cs.size = 48 ∧ Fill3 cs xs k)) (fun vi _ => 16 - (intOf vi).toNat)
  case atStart => exact ⟨0, rfl, by omega, HD1, HB1, Lib.hid ⟨_, HC1.out, rfl, fun j _ h => absurd h (by omega)⟩⟩
  case round =>
    clear HD1 HB1 HC1
    obtain ⟨k, rfl, hk, HD, HB, HC⟩ := hrel
    by_cases hlt : k < 16
    · have hkx : k < xs.length := by have := HX.out.1; omega
      have ck : wr.cell? ⟨b, k, none⟩ = some (.iface 32 (three xs[k].1 xs[k].2.1 xs[k].2.2)) := by
        rw [HB.out.cell, List.getElem?_toArray, List.getElem?_append_left (by simpa using hkx), List.getElem?_map, List.getElem?_eq_getElem hkx]; rfl
      obtain ⟨cs, hcb, hcs, hfl⟩ := HC.out
      obtain ⟨⟨⟨v0, p0⟩, f0⟩, ⟨⟨v1, p1⟩, f1⟩, ⟨⟨v2, p2⟩, f2⟩, hk1, hg1⟩ := st3 hcb (k * 3) (by omega) (.string xs[k].1) (.bool xs[k].2.1) (.bool xs[k].2.2)
      have HF := Lib.hid (hfl.step (by rw [HX.out.1]; exact hcs) hkx)
      have HK1 := Lib.hid hk1
      have HCS := Lib.hid hcs
      have HB2 := Lib.hid (HB.out.grown hg1 (by intro e; injection e with e; exact HW.out.2 e))
      have HD2 := Lib.hid (HD.out.trans (below_of_grown hg1 HW.out.1 HD.out.size))
      have hki : (k : Int) < 16 := by omega
      obtain ⟨s, e1⟩ : ∃ s, s = xs[k].1 := ⟨_, rfl⟩
      clear hcb hcs hfl hk1 hg1 HC
      go_wp2
      go_roundw
      case rel => exact ⟨k + 1, by go_num, by omega, HD2, HB2, Lib.hid ⟨_, HK1.out, by have := HCS.out; simpa using this, HF.out⟩⟩
      case measure => simp [intOf]; omega
    · obtain rfl : k = 16 := by omega
      go_wp2
      go_ret
      obtain ⟨cs, hcb, hcs, hfl⟩ := HC.out
      have hx := HX.out.1
      refine ⟨w1.heap.size, 16, 16, xs, [], rfl, hx, rfl, HX.out.2.1, HD.out, HW.out.1, ?_⟩
      have := Fill3.all (cs := cs) (xs := xs) (by rw [hx]; exact hfl) (by rw [hx]; exact hcs)
      rw [← this]
      exact hcb
set_option maxRecDepth 100000 in
set_option maxHeartbeats 4000000 in
theorem KeyEncryptionAlgorithms_calls (w : World) : Calls Try.prog 33 #[] w (LPost f3 36 tabKeyEncryption w) := by
  have HBK := Lib.hid (byKindKeyEncryption_calls w)
  have hta : ∀ (W : World) (s : ByteArray) (d y : Bool), Sem.run Try.prog (Instr.typeAssert (.iface 36 (.agg #[.string s, .bool d, .bool y])) 66 36 false) W = .ok (.agg #[.string s, .bool d, .bool y]) W := fun W s d y => by kernel_rfl
  go_enter Try.func33, Try.ntmps33
  go_wp2_with fail
  refine HBK.out.mono ?_
  rintro e w1 ⟨b, n, c, xs, rest, rfl, hx, hn, hm, hB, hbl, hb⟩
  obtain rfl : n = 19 := hn
  have hmk := mkKeyEncryption w1
  obtain ⟨W1, hW1⟩ : ∃ W1, W1 = w1.alloc (.cells zeroKeyEncryption 36) := ⟨_, rfl⟩
  have HX := Lib.hid (And.intro hx (And.intro hm hbl))
  have hb1 : Blk W1 b 66 (xs.flatMap (fun p => [vKeyEncryptionAlgorithm p]) ++ rest).toArray := by rw [hW1]; exact hb.alloc _
  have hB1 : Below w.heap.size w W1 := by rw [hW1]; exact below_alloc' hB _
  have hC1 : Blk W1 w1.heap.size 36 zeroKeyEncryption := by rw [hW1]; exact Blk.new w1 _ _
  have hne : b ≠ w1.heap.size := by have := hb.lt; omega
  have HW := Lib.hid (And.intro hB.size hne)
  rw [← hW1] at hmk
  rw [flat1] at hb1
  have HB1 := Lib.hid hb1
  have HD1 := Lib.hid hB1
  have HC1 := Lib.hid hC1
  clear hx hm hbl hb hB hb1 hB1 hC1 hne hW1 HBK
  go_wp2_with fail
  clear hmk
  go_loopw [11] (fun vi wr => ∃ k : Nat, vi = .int .i64 k ∧ k ≤ 19 ∧ Hid (Below w.heap.size w wr) ∧ Hid (Blk wr b 66 (xs.map vKeyEncryptionAlgorithm ++ rest).toArray) ∧ Hid (∃ cs, Blk wr w1.heap.size 36 cs ∧ cs.size = 57 ∧ Fill3 cs xs k)) (fun vi _ => 19 - (intOf vi).toNat)
  case atStart => exact ⟨0, rfl, by omega, HD1, HB1, Lib.hid ⟨_, HC1.out, rfl, fun j _ h => absurd h (by omega)⟩⟩
  case round =>
    clear HD1 HB1 HC1
    obtain ⟨k, rfl, hk, HD, HB, HC⟩ := hrel
    by_cases hlt : k < 19
    · have hkx : k < xs.length := by have := HX.out.1; omega
      have ck : wr.cell? ⟨b, k, none⟩ = some (.iface 36 (three xs[k].1 xs[k].2.1 xs[k].2.2)) := by
        rw [HB.out.cell, List.getElem?_toArray, List.getElem?_append_left (by simpa using hkx), List.getElem?_map, List.getElem?_eq_getElem hkx]; rfl
      obtain ⟨cs, hcb, hcs, hfl⟩ := HC.out
      obtain ⟨⟨⟨v0, p0⟩, f0⟩, ⟨⟨v1, p1⟩, f1⟩, ⟨⟨v2, p2⟩, f2⟩, hk1, hg1⟩ := st3 hcb (k * 3) (by omega) (.string xs[k].1) (.bool xs[k].2.1) (.bool xs[k].2.2)
      have HF := Lib.hid (hfl.step (by rw [HX.out.1]; exact hcs) hkx)
      have HK1 := Lib.hid hk1
      have HCS := Lib.hid hcs
      have HB2 := Lib.hid (HB.out.grown hg1 (by intro e; injection e with e; exact HW.out.2 e))
      have HD2 := Lib.hid (HD.out.trans (below_of_grown hg1 HW.out.1 HD.out.size))
      have hki : (k : Int) < 19 := by omega
      obtain ⟨s, e1⟩ : ∃ s, s = xs[k].1 := ⟨_, rfl⟩
      clear hcb hcs hfl hk1 hg1 HC
      go_wp2
      go_roundw
      case rel => exact ⟨k + 1, by go_num, by omega, HD2, HB2, Lib.hid ⟨_, HK1.out, by have := HCS.out; simpa using this, HF.out⟩⟩
      case measure => simp [intOf]; omega
    · obtain rfl : k = 19 := by omega
      go_wp2
      go_ret
      obtain ⟨cs, hcb, hcs, hfl⟩ := HC.out
      have hx := HX.out.1
      refine ⟨w1.heap.size, 19, 19, xs, [], rfl, hx, rfl, HX.out.2.1, HD.out, HW.out.1, ?_⟩
      have := Fill3.all (cs := cs) (xs := xs) (by rw [hx]; exact hfl) (by rw [hx]; exact hcs)
      rw [← this]
      exact hcb
set_option maxRecDepth 100000 in
set_option maxHeartbeats 4000000 in
theorem ContentEncryptionAlgorithms_calls (w : World) : Calls Try.prog 34 #[] w (LPost f2 40 tabContentEncryption w) := by
  have HBK := Lib.hid (byKindContentEncryption_calls w)
  have hta : ∀ (W : World) (s : ByteArray) (d : Bool), Sem.run Try.prog (Instr.typeAssert (.iface 40 (.agg #[.string s, .bool d])) 66 40 false) W = .ok (.agg #[.string s, .bool d]) W := fun W s d => by kernel_rfl
  go_enter Try.func34, Try.ntmps34
  go_wp2_with fail
  refine HBK.out.mono ?_
  rintro e w1 ⟨b, n, c, xs, rest, rfl, hx, hn, hm, hB, hbl, hb⟩
  obtain rfl : n = 6 := hn
  have hmk := mkContentEncryption w1
  obtain ⟨W1, hW1⟩ : ∃ W1, W1 = w1.alloc (.cells zeroContentEncryption 40) := ⟨_, rfl⟩
  have HX := Lib.hid (And.intro hx (And.intro hm hbl))
  have hb1 : Blk W1 b 66 (xs.flatMap (fun p => [vContentEncryptionAlgorithm p]) ++ rest).toArray := by rw [hW1]; exact hb.alloc _
  have hB1 : Below w.heap.size w W1 := by rw [hW1]; exact below_alloc' hB _
  have hC1 : Blk W1 w1.heap.size 40 zeroContentEncryption := by rw [hW1]; exact Blk.new w1 _ _
  have hne : b ≠ w1.heap.size := by have := hb.lt; omega
  have HW := Lib.hid (And.intro hB.size hne)
  rw [← hW1] at hmk
  rw [flat1] at hb1
  have HB1 := Lib.hid hb1
  have HD1 := Lib.hid hB1
  have HC1 := Lib.hid hC1
  clear hx hm hbl hb hB hb1 hB1 hC1 hne hW1 HBK
  go_wp2_with fail
  clear hmk
  go_loopw [11] (fun vi wr => ∃ k : Nat, vi = .int .i64 k ∧ k ≤ 6 ∧ Hid (Below w.heap.size w wr) ∧ Hid (Blk wr b 66 (xs.map vContentEncryptionAlgorithm ++ rest).toArray) ∧ Hid (∃ cs, Blk wr w1.heap.size 40 cs ∧ cs.size = 12 ∧ Fill2 cs xs k)) (fun vi _ => 6 - (intOf vi).toNat)
  case atStart => exact ⟨0, rfl, by omega, HD1, HB1, Lib.hid ⟨_, HC1.out, rfl, fun j _ h => absurd h (by omega)⟩⟩
  case round =>
    clear HD1 HB1 HC1
    obtain ⟨k, rfl, hk, HD, HB, HC⟩ := hrel
    by_cases hlt : k < 6
    · have hkx : k < xs.length := by have := HX.out.1; omega
      have ck : wr.cell? ⟨b, k, none⟩ = some (.iface 40 (two xs[k].1 xs[k].2)) := by
        rw [HB.out.cell, List.getElem?_toArray, List.getElem?_append_left (by simpa using hkx), List.getElem?_map, List.getElem?_eq_getElem hkx]; rfl
      obtain ⟨cs, hcb, hcs, hfl⟩ := HC.out
      obtain ⟨⟨⟨v0, p0⟩, f0⟩, ⟨⟨v1, p1⟩, f1⟩, hk1, hg1⟩ := st2 hcb (k * 2) (by omega) (.string xs[k].1) (.bool xs[k].2)
      have HF := Lib.hid (hfl.step (by rw [HX.out.1]; exact hcs) hkx)
      have HK1 := Lib.hid hk1
      have HCS := Lib.hid hcs
      have HB2 := Lib.hid (HB.out.grown hg1 (by intro e; injection e with e; exact HW.out.2 e))
      have HD2 := Lib.hid (HD.out.trans (below_of_grown hg1 HW.out.1 HD.out.size))
      have hki : (k : Int) < 6 := by omega
      obtain ⟨s, e1⟩ : ∃ s, s = xs[k].1 := ⟨_, rfl⟩
      clear hcb hcs hfl hk1 hg1 HC
      go_wp2
      go_roundw
      case rel => exact ⟨k + 1, by go_num, by omega, HD2, HB2, Lib.hid ⟨_, HK1.out, by have := HCS.out; simpa using this, HF.out⟩⟩
      case measure => simp [intOf]; omega
    · obtain rfl : k = 6 := by omega
      go_wp2
      go_ret
      obtain ⟨cs, hcb, hcs, hfl⟩ := HC.out
      have hx := HX.out.1
      refine ⟨w1.heap.size, 6, 6, xs, [], rfl, hx, rfl, HX.out.2.1, HD.out, HW.out.1, ?_⟩
      have := Fill2.all (cs := cs) (xs := xs) (by rw [hx]; exact hfl) (by rw [hx]; exact hcs)
      rw [← this]
      exact hcb
end Go.Proofs.Ytenneobgjalfhaa.So
