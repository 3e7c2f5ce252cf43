/- impl.NameList at its six kinds: it holds just the names that are built in; no condition. Printed by gen_nl.py. -/
import Derived.Test.YtenneobgjalfhaaNmAlgs
import Derived.Test.YtenneobgjalfhaaNmSpec
set_option linter.unusedVariables false
set_option linter.unusedSimpArgs false
namespace Go.Proofs.Ytenneobgjalfhaa.So
open Go.RowKit Go.Proofs.Ytenneobgjalfhaa.K Go.Proofs.Ytenneobgjalfhaa.Nm
theorem infoStr : (Try.prog.info? 9).map (fun i => (i.zero, i.size, i.bytes)) = some (some (.string ByteArray.empty), 1, 16) := by kernel_rfl
/-- A slice of texts. -/
def NL (w : World) (A : Option Addr) (n : Nat) (l : List ByteArray) : Prop := Reads w 1 A n (l.map Value.string)
def NLPost (k : Nat) (w : World) (e : Ending) (w' : World) : Prop := ∃ A n c l, e = .returned (.slice A n c) ∧ Below w.heap.size w w' ∧ n < 20 ∧ NL w' A n l ∧ ∀ s, s ∈ l ↔ ∃ p ∈ tabs k, p.1 = s
theorem name_iff {s : ByteArray} {tb : List (ByteArray × Bool)} : (∃ p ∈ up2 tb, p.1 = s) ↔ ∃ p ∈ tb, p.1 = s := by
  unfold up2
  constructor
  · rintro ⟨p, hp, e⟩
    obtain ⟨q, hq, rfl⟩ := List.mem_map.1 hp
    exact ⟨q, hq, e⟩
  · rintro ⟨p, hp, e⟩
    exact ⟨_, List.mem_map_of_mem hp, e⟩
theorem cells3 {w : World} {b : Nat} {T : TypeId} {xs : List (ByteArray × Bool × Bool)} {rest : List Value} (h : Blk w b T (xs.flatMap f3 ++ rest).toArray) (k : Nat) (hk : k < xs.length) :
    w.cell? ⟨b, k * 3, none⟩ = some (.string xs[k].1) ∧ w.cell? ⟨b, k * 3 + 1, none⟩ = some (.bool xs[k].2.1) ∧ w.cell? ⟨b, k * 3 + 2, none⟩ = some (.bool xs[k].2.2) := by
  obtain ⟨a, b, c⟩ := flat3_at xs k hk
  have := len3 xs
  refine ⟨?_, ?_, ?_⟩
  · rw [h.cell, List.getElem?_toArray, List.getElem?_append_left (by omega)]; exact a
  · rw [h.cell, List.getElem?_toArray, List.getElem?_append_left (by omega)]; exact b
  · rw [h.cell, List.getElem?_toArray, List.getElem?_append_left (by omega)]; exact c
theorem cells2 {w : World} {b : Nat} {T : TypeId} {xs : List (ByteArray × Bool)} {rest : List Value} (h : Blk w b T (xs.flatMap f2 ++ rest).toArray) (k : Nat) (hk : k < xs.length) :
    w.cell? ⟨b, k * 2, none⟩ = some (.string xs[k].1) ∧ w.cell? ⟨b, k * 2 + 1, none⟩ = some (.bool xs[k].2) := by
  obtain ⟨a, b⟩ := flat2_at xs k hk
  have := len2 xs
  refine ⟨?_, ?_⟩
  · rw [h.cell, List.getElem?_toArray, List.getElem?_append_left (by omega)]; exact a
  · rw [h.cell, List.getElem?_toArray, List.getElem?_append_left (by omega)]; exact b
set_option maxRecDepth 100000 in
set_option maxHeartbeats 4000000 in
theorem NameList_0 (w : World) : Calls Try.prog 9 #[.int .i64 0] w (NLPost 0 w) := by
  obtain ⟨i0, hi, hz0, hz1, hz2⟩ := info_parts infoStr
  have HI := Lib.hid (And.intro hi (And.intro hz0 (And.intro hz1 hz2)))
  have HBK := Lib.hid (SignatureAlgorithms_calls w)
  clear hi hz0 hz1 hz2
  go_enter Try.func9, Try.ntmps9
  go_wp2_with fail
  refine HBK.out.mono ?_
  rintro e w1 ⟨b, n, c, xs, rest, rfl, hx, hn, hm, hB, hbl, hb⟩
  obtain rfl : n = 16 := hn
  have HX := Lib.hid (And.intro hx (And.intro hm hbl))
  have HD0 := Lib.hid hB
  have HB0 := Lib.hid hb
  clear hx hm hbl hB hb HBK
  go_wp2_with fail
  go_loopw [3, 21] (fun v vi wr => ∃ k : Nat, vi = .int .i64 k ∧ k ≤ 16 ∧ Hid (Below w.heap.size w wr) ∧ Hid (Blk wr b 32 (xs.flatMap f3 ++ rest).toArray) ∧ Hid (wr.ownsRow w.heap.size 9 1 v k (((xs.take k).map (·.1)).map Value.string))) (fun _ vi _ => 16 - (intOf vi).toNat)
  case atStart => exact ⟨0, rfl, by omega, HD0, HB0, Lib.hid (World.ownsRow_nil _ _ _ _)⟩
  case round =>
    clear HD0 HB0
    obtain ⟨k, rfl, hk, HD, HB, HO⟩ := hrel
    obtain ⟨Av, cv, rfl, _, _⟩ := own_form HO.out
    by_cases hlt : k < 16
    · have hkx : k < xs.length := by have := HX.out.1; omega
      obtain ⟨c1, c2, c3⟩ := cells3 HB.out k hkx
      have htk : (xs.take (k + 1)).map (·.1) = (xs.take k).map (·.1) ++ [xs[k].1] := by rw [List.take_succ_eq_append_getElem hkx, List.map_append]; rfl
      obtain ⟨s, e1⟩ : ∃ s, s = xs[k].1 := ⟨_, rfl⟩
      obtain ⟨d, e2⟩ : ∃ d, d = xs[k].2.1 := ⟨_, rfl⟩
      obtain ⟨y, e3⟩ : ∃ y, y = xs[k].2.2 := ⟨_, rfl⟩
      rw [← e1] at c1
      rw [← e2] at c2
      rw [← e3] at c3
      rw [← e1] at htk
      have HTK := Lib.hid htk
      have hki : (k : Int) < 16 := by omega
      have HS := Lib.hid (SignatureAlgorithm_String_calls (wr.alloc (.cells #[.string s, .bool d, .bool y] 32)) s d y)
      clear e1 e2 e3 htk
      go_wp2_with fail
      refine HS.out.mono ?_
      rintro e w3 ⟨rfl, hb3⟩
      have HD3 := Lib.hid (below_then (below_alloc' HD.out _) hb3)
      have HB3 := Lib.hid ((HB.out.alloc _).below hb3 (by have := HB.out.lt; simp; omega))
      have HO3 := Lib.hid (own_below (HO.out.alloc _) hb3)
      clear hb3 HS HD HB HO c1 c2 c3
      go_wp2_with (at_builtin; refine wpList_append_any _ rfl (.tmp 25) (.tmp 28) 22 rfl w.heap.size 9 i0 (.string ByteArray.empty) 1 16 Try.underlying22 HI.out.1 HI.out.2.1 HI.out.2.2.1 HI.out.2.2.2 rfl (by decide) _ k _ rfl (HO3.out.alloc _) (some ⟨w3.heap.size, 0, none⟩) 1 1 [.string s] rfl (reads_lit w3 1 1 [.string s] #[.string s] rfl rfl 9) (by intro u hu; simp at hu; subst hu; rfl) (by unfold maxLen; omega) (by omega) (below_alloc' HD3.out _).size ?_; intro v' w6 hown hg6 hat; obtain ⟨Aw, cw, rfl, _, _⟩ := own_form hown; have HO6 := Lib.hid hown; have HB6 := Lib.hid ((HB3.out.alloc (.cells #[.string s] 9)).grown hg6 (own_blk_ne (HO3.out.alloc (.cells #[.string s] 9)) (HB3.out.alloc (.cells #[.string s] 9)) (by decide))); have HD6 : Hid (Below w.heap.size w w6) := Lib.hid ⟨hg6.os.trans HD3.out.os, hg6.tape.trans HD3.out.tape, hg6.output.trans HD3.out.output, Nat.le_trans (below_alloc' HD3.out (.cells #[.string s] 9)).size hg6.size, fun j hj => (hg6.block j (Nat.lt_of_lt_of_le hj (below_alloc' HD3.out (.cells #[.string s] 9)).size) (fun e => by have := own_block_ge (HO3.out.alloc (.cells #[.string s] 9)) j e.symm; omega)).trans ((below_alloc' HD3.out (.cells #[.string s] 9)).block j hj)⟩; clear hown hg6 hat)
      go_wp2_with fail
      go_roundw
      case rel => exact ⟨k + 1, by go_num, by omega, HD6, HB6, Lib.hid (by rw [HTK.out, List.map_append]; exact HO6.out)⟩
      case measure => simp [intOf]; omega
    · obtain rfl : k = 16 := by omega
      go_wp2
      go_ret
      obtain ⟨_, _, e, _, hr⟩ := own_form HO.out
      injection e with e1 e2 e3
      subst e1
      refine ⟨_, 16, _, _, rfl, HD.out, by decide, hr, fun s => ?_⟩
      rw [List.take_of_length_le (by have := HX.out.1; omega)]
      constructor
      · intro h
        obtain ⟨p, hp, e⟩ := List.mem_map.1 h
        exact ⟨p, (HX.out.2.1 p).1 hp, e⟩
      · rintro ⟨p, hp, e⟩
        exact List.mem_map.2 ⟨p, (HX.out.2.1 p).2 hp, e⟩
set_option maxRecDepth 100000 in
set_option maxHeartbeats 4000000 in
theorem NameList_1 (w : World) : Calls Try.prog 9 #[.int .i64 1] w (NLPost 1 w) := by
  obtain ⟨i0, hi, hz0, hz1, hz2⟩ := info_parts infoStr
  have HI := Lib.hid (And.intro hi (And.intro hz0 (And.intro hz1 hz2)))
  have HBK := Lib.hid (KeyEncryptionAlgorithms_calls w)
  clear hi hz0 hz1 hz2
  go_enter Try.func9, Try.ntmps9
  go_wp2_with fail
  refine HBK.out.mono ?_
  rintro e w1 ⟨b, n, c, xs, rest, rfl, hx, hn, hm, hB, hbl, hb⟩
  obtain rfl : n = 19 := hn
  have HX := Lib.hid (And.intro hx (And.intro hm hbl))
  have HD0 := Lib.hid hB
  have HB0 := Lib.hid hb
  clear hx hm hbl hB hb HBK
  go_wp2_with fail
  go_loopw [3, 35] (fun v vi wr => ∃ k : Nat, vi = .int .i64 k ∧ k ≤ 19 ∧ Hid (Below w.heap.size w wr) ∧ Hid (Blk wr b 36 (xs.flatMap f3 ++ rest).toArray) ∧ Hid (wr.ownsRow w.heap.size 9 1 v k (((xs.take k).map (·.1)).map Value.string))) (fun _ vi _ => 19 - (intOf vi).toNat)
  case atStart => exact ⟨0, rfl, by omega, HD0, HB0, Lib.hid (World.ownsRow_nil _ _ _ _)⟩
  case round =>
    clear HD0 HB0
    obtain ⟨k, rfl, hk, HD, HB, HO⟩ := hrel
    obtain ⟨Av, cv, rfl, _, _⟩ := own_form HO.out
    by_cases hlt : k < 19
    · have hkx : k < xs.length := by have := HX.out.1; omega
      obtain ⟨c1, c2, c3⟩ := cells3 HB.out k hkx
      have htk : (xs.take (k + 1)).map (·.1) = (xs.take k).map (·.1) ++ [xs[k].1] := by rw [List.take_succ_eq_append_getElem hkx, List.map_append]; rfl
      obtain ⟨s, e1⟩ : ∃ s, s = xs[k].1 := ⟨_, rfl⟩
      obtain ⟨d, e2⟩ : ∃ d, d = xs[k].2.1 := ⟨_, rfl⟩
      obtain ⟨y, e3⟩ : ∃ y, y = xs[k].2.2 := ⟨_, rfl⟩
      rw [← e1] at c1
      rw [← e2] at c2
      rw [← e3] at c3
      rw [← e1] at htk
      have HTK := Lib.hid htk
      have hki : (k : Int) < 19 := by omega
      have HS := Lib.hid (KeyEncryptionAlgorithm_String_calls (wr.alloc (.cells #[.string s, .bool d, .bool y] 36)) s d y)
      clear e1 e2 e3 htk
      go_wp2_with fail
      refine HS.out.mono ?_
      rintro e w3 ⟨rfl, hb3⟩
      have HD3 := Lib.hid (below_then (below_alloc' HD.out _) hb3)
      have HB3 := Lib.hid ((HB.out.alloc _).below hb3 (by have := HB.out.lt; simp; omega))
      have HO3 := Lib.hid (own_below (HO.out.alloc _) hb3)
      clear hb3 HS HD HB HO c1 c2 c3
      go_wp2_with (at_builtin; refine wpList_append_any _ rfl (.tmp 39) (.tmp 42) 22 rfl w.heap.size 9 i0 (.string ByteArray.empty) 1 16 Try.underlying22 HI.out.1 HI.out.2.1 HI.out.2.2.1 HI.out.2.2.2 rfl (by decide) _ k _ rfl (HO3.out.alloc _) (some ⟨w3.heap.size, 0, none⟩) 1 1 [.string s] rfl (reads_lit w3 1 1 [.string s] #[.string s] rfl rfl 9) (by intro u hu; simp at hu; subst hu; rfl) (by unfold maxLen; omega) (by omega) (below_alloc' HD3.out _).size ?_; intro v' w6 hown hg6 hat; obtain ⟨Aw, cw, rfl, _, _⟩ := own_form hown; have HO6 := Lib.hid hown; have HB6 := Lib.hid ((HB3.out.alloc (.cells #[.string s] 9)).grown hg6 (own_blk_ne (HO3.out.alloc (.cells #[.string s] 9)) (HB3.out.alloc (.cells #[.string s] 9)) (by decide))); have HD6 : Hid (Below w.heap.size w w6) := Lib.hid ⟨hg6.os.trans HD3.out.os, hg6.tape.trans HD3.out.tape, hg6.output.trans HD3.out.output, Nat.le_trans (below_alloc' HD3.out (.cells #[.string s] 9)).size hg6.size, fun j hj => (hg6.block j (Nat.lt_of_lt_of_le hj (below_alloc' HD3.out (.cells #[.string s] 9)).size) (fun e => by have := own_block_ge (HO3.out.alloc (.cells #[.string s] 9)) j e.symm; omega)).trans ((below_alloc' HD3.out (.cells #[.string s] 9)).block j hj)⟩; clear hown hg6 hat)
      go_wp2_with fail
      go_roundw
      case rel => exact ⟨k + 1, by go_num, by omega, HD6, HB6, Lib.hid (by rw [HTK.out, List.map_append]; exact HO6.out)⟩
      case measure => simp [intOf]; omega
    · obtain rfl : k = 19 := by omega
      go_wp2
      go_ret
      obtain ⟨_, _, e, _, hr⟩ := own_form HO.out
      injection e with e1 e2 e3
      subst e1
      refine ⟨_, 19, _, _, rfl, HD.out, by decide, hr, fun s => ?_⟩
      rw [List.take_of_length_le (by have := HX.out.1; omega)]
      constructor
      · intro h
        obtain ⟨p, hp, e⟩ := List.mem_map.1 h
        exact ⟨p, (HX.out.2.1 p).1 hp, e⟩
      · rintro ⟨p, hp, e⟩
        exact List.mem_map.2 ⟨p, (HX.out.2.1 p).2 hp, e⟩
set_option maxRecDepth 100000 in
set_option maxHeartbeats 4000000 in
theorem NameList_2 (w : World) : Calls Try.prog 9 #[.int .i64 2] w (NLPost 2 w) := by
  obtain ⟨i0, hi, hz0, hz1, hz2⟩ := info_parts infoStr
  have HI := Lib.hid (And.intro hi (And.intro hz0 (And.intro hz1 hz2)))
  have HBK := Lib.hid (ContentEncryptionAlgorithms_calls w)
  clear hi hz0 hz1 hz2
  go_enter Try.func9, Try.ntmps9
  go_wp2_with fail
  refine HBK.out.mono ?_
  rintro e w1 ⟨b, n, c, xs, rest, rfl, hx, hn, hm, hB, hbl, hb⟩
  obtain rfl : n = 6 := hn
  have HX := Lib.hid (And.intro hx (And.intro hm hbl))
  have HD0 := Lib.hid hB
  have HB0 := Lib.hid hb
  clear hx hm hbl hB hb HBK
  go_wp2_with fail
  go_loopw [3, 49] (fun v vi wr => ∃ k : Nat, vi = .int .i64 k ∧ k ≤ 6 ∧ Hid (Below w.heap.size w wr) ∧ Hid (Blk wr b 40 (xs.flatMap f2 ++ rest).toArray) ∧ Hid (wr.ownsRow w.heap.size 9 1 v k (((xs.take k).map (·.1)).map Value.string))) (fun _ vi _ => 6 - (intOf vi).toNat)
  case atStart => exact ⟨0, rfl, by omega, HD0, HB0, Lib.hid (World.ownsRow_nil _ _ _ _)⟩
  case round =>
    clear HD0 HB0
    obtain ⟨k, rfl, hk, HD, HB, HO⟩ := hrel
    obtain ⟨Av, cv, rfl, _, _⟩ := own_form HO.out
    by_cases hlt : k < 6
    · have hkx : k < xs.length := by have := HX.out.1; omega
      obtain ⟨c1, c2⟩ := cells2 HB.out k hkx
      have htk : (xs.take (k + 1)).map (·.1) = (xs.take k).map (·.1) ++ [xs[k].1] := by rw [List.take_succ_eq_append_getElem hkx, List.map_append]; rfl
      obtain ⟨s, e1⟩ : ∃ s, s = xs[k].1 := ⟨_, rfl⟩
      obtain ⟨d, e2⟩ : ∃ d, d = xs[k].2 := ⟨_, rfl⟩
      rw [← e1] at c1
      rw [← e2] at c2
      rw [← e1] at htk
      have HTK := Lib.hid htk
      have hki : (k : Int) < 6 := by omega
      have HS := Lib.hid (ContentEncryptionAlgorithm_String_calls (wr.alloc (.cells #[.string s, .bool d] 40)) s d d)
      clear e1 e2 htk
      go_wp2_with fail
      refine HS.out.mono ?_
      rintro e w3 ⟨rfl, hb3⟩
      have HD3 := Lib.hid (below_then (below_alloc' HD.out _) hb3)
      have HB3 := Lib.hid ((HB.out.alloc _).below hb3 (by have := HB.out.lt; simp; omega))
      have HO3 := Lib.hid (own_below (HO.out.alloc _) hb3)
      clear hb3 HS HD HB HO c1 c2
      go_wp2_with (at_builtin; refine wpList_append_any _ rfl (.tmp 53) (.tmp 56) 22 rfl w.heap.size 9 i0 (.string ByteArray.empty) 1 16 Try.underlying22 HI.out.1 HI.out.2.1 HI.out.2.2.1 HI.out.2.2.2 rfl (by decide) _ k _ rfl (HO3.out.alloc _) (some ⟨w3.heap.size, 0, none⟩) 1 1 [.string s] rfl (reads_lit w3 1 1 [.string s] #[.string s] rfl rfl 9) (by intro u hu; simp at hu; subst hu; rfl) (by unfold maxLen; omega) (by omega) (below_alloc' HD3.out _).size ?_; intro v' w6 hown hg6 hat; obtain ⟨Aw, cw, rfl, _, _⟩ := own_form hown; have HO6 := Lib.hid hown; have HB6 := Lib.hid ((HB3.out.alloc (.cells #[.string s] 9)).grown hg6 (own_blk_ne (HO3.out.alloc (.cells #[.string s] 9)) (HB3.out.alloc (.cells #[.string s] 9)) (by decide))); have HD6 : Hid (Below w.heap.size w w6) := Lib.hid ⟨hg6.os.trans HD3.out.os, hg6.tape.trans HD3.out.tape, hg6.output.trans HD3.out.output, Nat.le_trans (below_alloc' HD3.out (.cells #[.string s] 9)).size hg6.size, fun j hj => (hg6.block j (Nat.lt_of_lt_of_le hj (below_alloc' HD3.out (.cells #[.string s] 9)).size) (fun e => by have := own_block_ge (HO3.out.alloc (.cells #[.string s] 9)) j e.symm; omega)).trans ((below_alloc' HD3.out (.cells #[.string s] 9)).block j hj)⟩; clear hown hg6 hat)
      go_wp2_with fail
      go_roundw
      case rel => exact ⟨k + 1, by go_num, by omega, HD6, HB6, Lib.hid (by rw [HTK.out, List.map_append]; exact HO6.out)⟩
      case measure => simp [intOf]; omega
    · obtain rfl : k = 6 := by omega
      go_wp2
      go_ret
      obtain ⟨_, _, e, _, hr⟩ := own_form HO.out
      injection e with e1 e2 e3
      subst e1
      refine ⟨_, 6, _, _, rfl, HD.out, by decide, hr, fun s => ?_⟩
      rw [List.take_of_length_le (by have := HX.out.1; omega)]
      rw [show tabs 2 = up2 tabContentEncryption from rfl, name_iff]
      constructor
      · intro h
        obtain ⟨p, hp, e⟩ := List.mem_map.1 h
        exact ⟨p, (HX.out.2.1 p).1 hp, e⟩
      · rintro ⟨p, hp, e⟩
        exact List.mem_map.2 ⟨p, (HX.out.2.1 p).2 hp, e⟩
set_option maxRecDepth 100000 in
set_option maxHeartbeats 4000000 in
theorem NameList_3 (w : World) : Calls Try.prog 9 #[.int .i64 3] w (NLPost 3 w) := by
  obtain ⟨i0, hi, hz0, hz1, hz2⟩ := info_parts infoStr
  have HI := Lib.hid (And.intro hi (And.intro hz0 (And.intro hz1 hz2)))
  have HBK := Lib.hid (CompressionAlgorithms_calls w)
  clear hi hz0 hz1 hz2
  go_enter Try.func9, Try.ntmps9
  go_wp2_with fail
  refine HBK.out.mono ?_
  rintro e w1 ⟨b, n, c, xs, rest, rfl, hx, hn, hm, hB, hbl, hb⟩
  obtain rfl : n = 2 := hn
  have HX := Lib.hid (And.intro hx (And.intro hm hbl))
  have HD0 := Lib.hid hB
  have HB0 := Lib.hid hb
  clear hx hm hbl hB hb HBK
  go_wp2_with fail
  go_loopw [3, 63] (fun v vi wr => ∃ k : Nat, vi = .int .i64 k ∧ k ≤ 2 ∧ Hid (Below w.heap.size w wr) ∧ Hid (Blk wr b 43 (xs.flatMap f2 ++ rest).toArray) ∧ Hid (wr.ownsRow w.heap.size 9 1 v k (((xs.take k).map (·.1)).map Value.string))) (fun _ vi _ => 2 - (intOf vi).toNat)
  case atStart => exact ⟨0, rfl, by omega, HD0, HB0, Lib.hid (World.ownsRow_nil _ _ _ _)⟩
  case round =>
    clear HD0 HB0
    obtain ⟨k, rfl, hk, HD, HB, HO⟩ := hrel
    obtain ⟨Av, cv, rfl, _, _⟩ := own_form HO.out
    by_cases hlt : k < 2
    · have hkx : k < xs.length := by have := HX.out.1; omega
      obtain ⟨c1, c2⟩ := cells2 HB.out k hkx
      have htk : (xs.take (k + 1)).map (·.1) = (xs.take k).map (·.1) ++ [xs[k].1] := by rw [List.take_succ_eq_append_getElem hkx, List.map_append]; rfl
      obtain ⟨s, e1⟩ : ∃ s, s = xs[k].1 := ⟨_, rfl⟩
      obtain ⟨d, e2⟩ : ∃ d, d = xs[k].2 := ⟨_, rfl⟩
      rw [← e1] at c1
      rw [← e2] at c2
      rw [← e1] at htk
      have HTK := Lib.hid htk
      have hki : (k : Int) < 2 := by omega
      have HS := Lib.hid (CompressionAlgorithm_String_calls (wr.alloc (.cells #[.string s, .bool d] 43)) s d d)
      clear e1 e2 htk
      go_wp2_with fail
      refine HS.out.mono ?_
      rintro e w3 ⟨rfl, hb3⟩
      have HD3 := Lib.hid (below_then (below_alloc' HD.out _) hb3)
      have HB3 := Lib.hid ((HB.out.alloc _).below hb3 (by have := HB.out.lt; simp; omega))
      have HO3 := Lib.hid (own_below (HO.out.alloc _) hb3)
      clear hb3 HS HD HB HO c1 c2
      go_wp2_with (at_builtin; refine wpList_append_any _ rfl (.tmp 67) (.tmp 70) 22 rfl w.heap.size 9 i0 (.string ByteArray.empty) 1 16 Try.underlying22 HI.out.1 HI.out.2.1 HI.out.2.2.1 HI.out.2.2.2 rfl (by decide) _ k _ rfl (HO3.out.alloc _) (some ⟨w3.heap.size, 0, none⟩) 1 1 [.string s] rfl (reads_lit w3 1 1 [.string s] #[.string s] rfl rfl 9) (by intro u hu; simp at hu; subst hu; rfl) (by unfold maxLen; omega) (by omega) (below_alloc' HD3.out _).size ?_; intro v' w6 hown hg6 hat; obtain ⟨Aw, cw, rfl, _, _⟩ := own_form hown; have HO6 := Lib.hid hown; have HB6 := Lib.hid ((HB3.out.alloc (.cells #[.string s] 9)).grown hg6 (own_blk_ne (HO3.out.alloc (.cells #[.string s] 9)) (HB3.out.alloc (.cells #[.string s] 9)) (by decide))); have HD6 : Hid (Below w.heap.size w w6) := Lib.hid ⟨hg6.os.trans HD3.out.os, hg6.tape.trans HD3.out.tape, hg6.output.trans HD3.out.output, Nat.le_trans (below_alloc' HD3.out (.cells #[.string s] 9)).size hg6.size, fun j hj => (hg6.block j (Nat.lt_of_lt_of_le hj (below_alloc' HD3.out (.cells #[.string s] 9)).size) (fun e => by have := own_block_ge (HO3.out.alloc (.cells #[.string s] 9)) j e.symm; omega)).trans ((below_alloc' HD3.out (.cells #[.string s] 9)).block j hj)⟩; clear hown hg6 hat)
      go_wp2_with fail
      go_roundw
      case rel => exact ⟨k + 1, by go_num, by omega, HD6, HB6, Lib.hid (by rw [HTK.out, List.map_append]; exact HO6.out)⟩
      case measure => simp [intOf]; omega
    · obtain rfl : k = 2 := by omega
      go_wp2
      go_ret
      obtain ⟨_, _, e, _, hr⟩ := own_form HO.out
      injection e with e1 e2 e3
      subst e1
      refine ⟨_, 2, _, _, rfl, HD.out, by decide, hr, fun s => ?_⟩
      rw [List.take_of_length_le (by have := HX.out.1; omega)]
      rw [show tabs 3 = up2 tabCompression from rfl, name_iff]
      constructor
      · intro h
        obtain ⟨p, hp, e⟩ := List.mem_map.1 h
        exact ⟨p, (HX.out.2.1 p).1 hp, e⟩
      · rintro ⟨p, hp, e⟩
        exact List.mem_map.2 ⟨p, (HX.out.2.1 p).2 hp, e⟩
set_option maxRecDepth 100000 in
set_option maxHeartbeats 4000000 in
theorem NameList_4 (w : World) : Calls Try.prog 9 #[.int .i64 4] w (NLPost 4 w) := by
  obtain ⟨i0, hi, hz0, hz1, hz2⟩ := info_parts infoStr
  have HI := Lib.hid (And.intro hi (And.intro hz0 (And.intro hz1 hz2)))
  have HBK := Lib.hid (EllipticCurveAlgorithms_calls w)
  clear hi hz0 hz1 hz2
  go_enter Try.func9, Try.ntmps9
  go_wp2_with fail
  refine HBK.out.mono ?_
  rintro e w1 ⟨b, n, c, xs, rest, rfl, hx, hn, hm, hB, hbl, hb⟩
  obtain rfl : n = 7 := hn
  have HX := Lib.hid (And.intro hx (And.intro hm hbl))
  have HD0 := Lib.hid hB
  have HB0 := Lib.hid hb
  clear hx hm hbl hB hb HBK
  go_wp2_with fail
  go_loopw [3, 77] (fun v vi wr => ∃ k : Nat, vi = .int .i64 k ∧ k ≤ 7 ∧ Hid (Below w.heap.size w wr) ∧ Hid (Blk wr b 46 (xs.flatMap f2 ++ rest).toArray) ∧ Hid (wr.ownsRow w.heap.size 9 1 v k (((xs.take k).map (·.1)).map Value.string))) (fun _ vi _ => 7 - (intOf vi).toNat)
  case atStart => exact ⟨0, rfl, by omega, HD0, HB0, Lib.hid (World.ownsRow_nil _ _ _ _)⟩
  case round =>
    clear HD0 HB0
    obtain ⟨k, rfl, hk, HD, HB, HO⟩ := hrel
    obtain ⟨Av, cv, rfl, _, _⟩ := own_form HO.out
    by_cases hlt : k < 7
    · have hkx : k < xs.length := by have := HX.out.1; omega
      obtain ⟨c1, c2⟩ := cells2 HB.out k hkx
      have htk : (xs.take (k + 1)).map (·.1) = (xs.take k).map (·.1) ++ [xs[k].1] := by rw [List.take_succ_eq_append_getElem hkx, List.map_append]; rfl
      obtain ⟨s, e1⟩ : ∃ s, s = xs[k].1 := ⟨_, rfl⟩
      obtain ⟨d, e2⟩ : ∃ d, d = xs[k].2 := ⟨_, rfl⟩
      rw [← e1] at c1
      rw [← e2] at c2
      rw [← e1] at htk
      have HTK := Lib.hid htk
      have hki : (k : Int) < 7 := by omega
      have HS := Lib.hid (EllipticCurveAlgorithm_String_calls (wr.alloc (.cells #[.string s, .bool d] 46)) s d d)
      clear e1 e2 htk
      go_wp2_with fail
      refine HS.out.mono ?_
      rintro e w3 ⟨rfl, hb3⟩
      have HD3 := Lib.hid (below_then (below_alloc' HD.out _) hb3)
      have HB3 := Lib.hid ((HB.out.alloc _).below hb3 (by have := HB.out.lt; simp; omega))
      have HO3 := Lib.hid (own_below (HO.out.alloc _) hb3)
      clear hb3 HS HD HB HO c1 c2
      go_wp2_with (at_builtin; refine wpList_append_any _ rfl (.tmp 81) (.tmp 84) 22 rfl w.heap.size 9 i0 (.string ByteArray.empty) 1 16 Try.underlying22 HI.out.1 HI.out.2.1 HI.out.2.2.1 HI.out.2.2.2 rfl (by decide) _ k _ rfl (HO3.out.alloc _) (some ⟨w3.heap.size, 0, none⟩) 1 1 [.string s] rfl (reads_lit w3 1 1 [.string s] #[.string s] rfl rfl 9) (by intro u hu; simp at hu; subst hu; rfl) (by unfold maxLen; omega) (by omega) (below_alloc' HD3.out _).size ?_; intro v' w6 hown hg6 hat; obtain ⟨Aw, cw, rfl, _, _⟩ := own_form hown; have HO6 := Lib.hid hown; have HB6 := Lib.hid ((HB3.out.alloc (.cells #[.string s] 9)).grown hg6 (own_blk_ne (HO3.out.alloc (.cells #[.string s] 9)) (HB3.out.alloc (.cells #[.string s] 9)) (by decide))); have HD6 : Hid (Below w.heap.size w w6) := Lib.hid ⟨hg6.os.trans HD3.out.os, hg6.tape.trans HD3.out.tape, hg6.output.trans HD3.out.output, Nat.le_trans (below_alloc' HD3.out (.cells #[.string s] 9)).size hg6.size, fun j hj => (hg6.block j (Nat.lt_of_lt_of_le hj (below_alloc' HD3.out (.cells #[.string s] 9)).size) (fun e => by have := own_block_ge (HO3.out.alloc (.cells #[.string s] 9)) j e.symm; omega)).trans ((below_alloc' HD3.out (.cells #[.string s] 9)).block j hj)⟩; clear hown hg6 hat)
      go_wp2_with fail
      go_roundw
      case rel => exact ⟨k + 1, by go_num, by omega, HD6, HB6, Lib.hid (by rw [HTK.out, List.map_append]; exact HO6.out)⟩
      case measure => simp [intOf]; omega
    · obtain rfl : k = 7 := by omega
      go_wp2
      go_ret
      obtain ⟨_, _, e, _, hr⟩ := own_form HO.out
      injection e with e1 e2 e3
      subst e1
      refine ⟨_, 7, _, _, rfl, HD.out, by decide, hr, fun s => ?_⟩
      rw [List.take_of_length_le (by have := HX.out.1; omega)]
      rw [show tabs 4 = up2 tabEllipticCurve from rfl, name_iff]
      constructor
      · intro h
        obtain ⟨p, hp, e⟩ := List.mem_map.1 h
        exact ⟨p, (HX.out.2.1 p).1 hp, e⟩
      · rintro ⟨p, hp, e⟩
        exact List.mem_map.2 ⟨p, (HX.out.2.1 p).2 hp, e⟩
set_option maxRecDepth 100000 in
set_option maxHeartbeats 4000000 in
theorem NameList_5 (w : World) : Calls Try.prog 9 #[.int .i64 5] w (NLPost 5 w) := by
  obtain ⟨i0, hi, hz0, hz1, hz2⟩ := info_parts infoStr
  have HI := Lib.hid (And.intro hi (And.intro hz0 (And.intro hz1 hz2)))
  have HBK := Lib.hid (KeyTypes_calls w)
  clear hi hz0 hz1 hz2
  go_enter Try.func9, Try.ntmps9
  go_wp2_with fail
  refine HBK.out.mono ?_
  rintro e w1 ⟨b, n, c, xs, rest, rfl, hx, hn, hm, hB, hbl, hb⟩
  obtain rfl : n = 4 := hn
  have HX := Lib.hid (And.intro hx (And.intro hm hbl))
  have HD0 := Lib.hid hB
  have HB0 := Lib.hid hb
  clear hx hm hbl hB hb HBK
  go_wp2_with fail
  go_loopw [3, 91] (fun v vi wr => ∃ k : Nat, vi = .int .i64 k ∧ k ≤ 4 ∧ Hid (Below w.heap.size w wr) ∧ Hid (Blk wr b 49 (xs.flatMap f2 ++ rest).toArray) ∧ Hid (wr.ownsRow w.heap.size 9 1 v k (((xs.take k).map (·.1)).map Value.string))) (fun _ vi _ => 4 - (intOf vi).toNat)
  case atStart => exact ⟨0, rfl, by omega, HD0, HB0, Lib.hid (World.ownsRow_nil _ _ _ _)⟩
  case round =>
    clear HD0 HB0
    obtain ⟨k, rfl, hk, HD, HB, HO⟩ := hrel
    obtain ⟨Av, cv, rfl, _, _⟩ := own_form HO.out
    by_cases hlt : k < 4
    · have hkx : k < xs.length := by have := HX.out.1; omega
      obtain ⟨c1, c2⟩ := cells2 HB.out k hkx
      have htk : (xs.take (k + 1)).map (·.1) = (xs.take k).map (·.1) ++ [xs[k].1] := by rw [List.take_succ_eq_append_getElem hkx, List.map_append]; rfl
      obtain ⟨s, e1⟩ : ∃ s, s = xs[k].1 := ⟨_, rfl⟩
      obtain ⟨d, e2⟩ : ∃ d, d = xs[k].2 := ⟨_, rfl⟩
      rw [← e1] at c1
      rw [← e2] at c2
      rw [← e1] at htk
      have HTK := Lib.hid htk
      have hki : (k : Int) < 4 := by omega
      have HS := Lib.hid (KeyType_String_calls (wr.alloc (.cells #[.string s, .bool d] 49)) s d d)
      clear e1 e2 htk
      go_wp2_with fail
      refine HS.out.mono ?_
      rintro e w3 ⟨rfl, hb3⟩
      have HD3 := Lib.hid (below_then (below_alloc' HD.out _) hb3)
      have HB3 := Lib.hid ((HB.out.alloc _).below hb3 (by have := HB.out.lt; simp; omega))
      have HO3 := Lib.hid (own_below (HO.out.alloc _) hb3)
      clear hb3 HS HD HB HO c1 c2
      go_wp2_with (at_builtin; refine wpList_append_any _ rfl (.tmp 95) (.tmp 98) 22 rfl w.heap.size 9 i0 (.string ByteArray.empty) 1 16 Try.underlying22 HI.out.1 HI.out.2.1 HI.out.2.2.1 HI.out.2.2.2 rfl (by decide) _ k _ rfl (HO3.out.alloc _) (some ⟨w3.heap.size, 0, none⟩) 1 1 [.string s] rfl (reads_lit w3 1 1 [.string s] #[.string s] rfl rfl 9) (by intro u hu; simp at hu; subst hu; rfl) (by unfold maxLen; omega) (by omega) (below_alloc' HD3.out _).size ?_; intro v' w6 hown hg6 hat; obtain ⟨Aw, cw, rfl, _, _⟩ := own_form hown; have HO6 := Lib.hid hown; have HB6 := Lib.hid ((HB3.out.alloc (.cells #[.string s] 9)).grown hg6 (own_blk_ne (HO3.out.alloc (.cells #[.string s] 9)) (HB3.out.alloc (.cells #[.string s] 9)) (by decide))); have HD6 : Hid (Below w.heap.size w w6) := Lib.hid ⟨hg6.os.trans HD3.out.os, hg6.tape.trans HD3.out.tape, hg6.output.trans HD3.out.output, Nat.le_trans (below_alloc' HD3.out (.cells #[.string s] 9)).size hg6.size, fun j hj => (hg6.block j (Nat.lt_of_lt_of_le hj (below_alloc' HD3.out (.cells #[.string s] 9)).size) (fun e => by have := own_block_ge (HO3.out.alloc (.cells #[.string s] 9)) j e.symm; omega)).trans ((below_alloc' HD3.out (.cells #[.string s] 9)).block j hj)⟩; clear hown hg6 hat)
      go_wp2_with fail
      go_roundw
      case rel => exact ⟨k + 1, by go_num, by omega, HD6, HB6, Lib.hid (by rw [HTK.out, List.map_append]; exact HO6.out)⟩
      case measure => simp [intOf]; omega
    · obtain rfl : k = 4 := by omega
      go_wp2
      go_ret
      obtain ⟨_, _, e, _, hr⟩ := own_form HO.out
      injection e with e1 e2 e3
      subst e1
      refine ⟨_, 4, _, _, rfl, HD.out, by decide, hr, fun s => ?_⟩
      rw [List.take_of_length_le (by have := HX.out.1; omega)]
      rw [show tabs 5 = up2 tabKeyType from rfl, name_iff]
      constructor
      · intro h
        obtain ⟨p, hp, e⟩ := List.mem_map.1 h
        exact ⟨p, (HX.out.2.1 p).1 hp, e⟩
      · rintro ⟨p, hp, e⟩
        exact List.mem_map.2 ⟨p, (HX.out.2.1 p).2 hp, e⟩
theorem NameList_calls (w : World) (k : Nat) (hk : k < 6) : Calls Try.prog 9 #[.int .i64 k] w (NLPost k w) := by
  match k, hk with
  | 0, _ => exact NameList_0 w
  | 1, _ => exact NameList_1 w
  | 2, _ => exact NameList_2 w
  | 3, _ => exact NameList_3 w
  | 4, _ => exact NameList_4 w
  | 5, _ => exact NameList_5 w
end Go.Proofs.Ytenneobgjalfhaa.So
