/- Walks of newSymmetricKey, of a key's Set at "k" and at "kid", of NewSymmetric; the conditions are on what lies in memory. -/
import Derived.Test.YtlbnemnadegapaaDoorKySet7
set_option linter.unusedVariables false
set_option linter.unusedSimpArgs false
namespace Go.Proofs.YtlbnemnadegapaaDoor.Ky
open Go.RowKit Go.Proofs.YtlbnemnadegapaaDoor.K Go.Proofs.YtlbnemnadegapaaDoor.Nm
theorem infoU8 : (Tryd.prog.info? 5).map (fun i => (i.zero, i.size, i.bytes)) = some (some (.int .u8 0), 1, 1) := by kernel_rfl
theorem u8size : (Tryd.prog.info? 5).map (·.size) = some 1 := by kernel_rfl
/-- The cells of a new key; the octets' slice behind them. -/
def newK (m : Nat) : Array Value := #[.pointer none, .pointer none, .pointer none, .pointer none, .slice none 0 0, .pointer none, .pointer none, .pointer none, .map (some m)]
section
set_option maxRecDepth 100000 in
theorem newSym_calls (w : World) : Calls Tryd.prog 43 #[] w fun e w' => e = .returned (.pointer (some ⟨w.heap.size + 1, 0, none⟩)) ∧ MapN (fun _ => False) w' w.heap.size ∧ Blk w' (w.heap.size + 1) 144 (newK w.heap.size) ∧ Below w.heap.size w w' ∧ w'.heap.size = w.heap.size + 2 := by
  have hmm := @run_makeMap Tryd.prog
  have HM := Lib.hid ((MapN.new (Q := fun _ => False) w).fr (Fr.alloc (bad := fun _ => False) (w.alloc (.map #[] 0)) (.cells (newK w.heap.size) 144)))
  have HB := Lib.hid (Blk.new (w.alloc (.map #[] 0)) 144 (newK w.heap.size))
  go_enter Tryd.func43, Tryd.ntmps43
  go_wp2
  go_ret
  exact ⟨by simp, HM.out, by simpa [newK] using HB.out, below_alloc' (below_alloc' (Below.refl _ _) _) _, by simp⟩
theorem oct_pre {w w2 : World} {x : Nat} {cs : Array Value} (hb : Blk w x 144 cs) {ad : Addr} {n : Nat} {l : List UInt8} (hr : Reads w 1 (some ad) n (bys l)) (hax : ad.block ≠ x)
    (hb2 : Blk w2 w.heap.size 5 (Array.replicate n (.int .u8 0))) (hB2 : Below w.heap.size w w2) (hs2 : w2.heap.size = w.heap.size + 1) (v : Value) :
    Blk (w2.setCell ⟨x, 4, none⟩ v) x 144 (cs.setIfInBounds 4 v) ∧ Blk (w2.setCell ⟨x, 4, none⟩ v) w.heap.size 5 (List.replicate n (Value.int .u8 0)).toArray ∧ w.grownBy (w2.setCell ⟨x, 4, none⟩ v) (some x) ∧
      (w2.setCell ⟨x, 4, none⟩ v).heap.size = w.heap.size + 1 ∧ Reads (w2.setCell ⟨x, 4, none⟩ v) 1 (some ad) n (bys l) := by
  have hx := hb.lt
  have hg : w.grownBy (w2.setCell ⟨x, 4, none⟩ v) (some x) := grown_trans (grown_of_below hB2 (Nat.le_refl _) _) (setCell_grown w2 ⟨x, 4, none⟩ _)
  have hs : (w2.setCell ⟨x, 4, none⟩ v).heap.size = w.heap.size + 1 := by simp [World.setCell, hs2]
  refine ⟨(hb.below hB2 hx).set_ 4 _, ?_, hg, hs, hr.1, fun h0 => ?_⟩
  · rw [List.toArray_replicate]
    exact hb2.far (p := ⟨x, 4, none⟩) (by show w.heap.size ≠ x; omega) _
  · obtain ⟨a', e', hlt, hc⟩ := hr.2 h0
    injection e' with e'
    subst e'
    refine ⟨ad, rfl, by omega, fun j u hu => ?_⟩
    rw [← hc j u hu]
    have hbk : (w2.setCell ⟨x, 4, none⟩ v).heap[(ad.add j).block]? = w.heap[(ad.add j).block]? := hg.block _ (by rw [block_of_add]; exact hlt) (by rw [block_of_add]; intro e; injection e with e; exact hax e)
    unfold World.cell?
    rw [hbk]
/-- What a key's Set at "k" leaves. -/
def SetOct (x n : Nat) (l : List UInt8) (cs : Array Value) (w : World) (e : Ending) (w' : World) : Prop :=
  e = .returned .nilIface ∧ Blk w' w.heap.size 5 (bys l).toArray ∧ Blk w' x 144 (cs.setIfInBounds 4 (.slice (some ⟨w.heap.size, 0, none⟩) n n)) ∧ w.grownBy w' (some x) ∧ w'.heap.size = w.heap.size + 1
set_option maxRecDepth 100000 in
set_option maxHeartbeats 4000000 in
theorem setOct_calls (w : World) (x : Nat) (cs : Array Value) (hb : Blk w x 144 cs) (hcs : cs.size = 9) (ad : Addr) (n c : Nat) (l : List UInt8) (hl : l.length = n) (hr : Reads w 1 (some ad) n (bys l)) (hn : n ≤ 1000) (hax : ad.block ≠ x) :
    Calls Tryd.prog 60 #[.pointer (some ⟨x, 0, none⟩), .string ⟨#[107]⟩, .iface 22 (.slice (some ad) n c)] w (SetOct x n l cs w) := by
  obtain ⟨i0, hi, hz0, hz1, hz2⟩ := info_parts infoU8
  have HI := Lib.hid (And.intro hi (And.intro hz0 (And.intro hz1 hz2)))
  have hxlt := hb.lt
  have HB := Lib.hid hb
  have HR := Lib.hid (And.intro hr (And.intro hl hcs))
  have hsp : splice (List.replicate n (Value.int .u8 0)) 0 ((bys l).take n) = bys l := by
    rw [List.take_of_length_le (by rw [bys_length]; omega)]
    unfold splice
    simp [bys_length, hl]
  have HSP := Lib.hid hsp
  have hn2 : n = n := rfl
  have hta : ∀ W, Sem.run Tryd.prog (Instr.typeAssert (.iface 22 (.slice (some ad) n c)) 20 22 true) W = .ok (.tuple #[.slice (some ad) n c, .bool true]) W := fun W => by kernel_rfl
  have hnl : ∀ W, Sem.run Tryd.prog (binOp BinOp.eql 22 (.slice (some ad) n c) (.slice none 0 0)) W = .ok (.bool false) W := fun W => by kernel_rfl
  clear hb hr hi hz0 hz1 hz2 hsp hn2 hl
  go_enter Tryd.func60, Tryd.ntmps60
  go_wp2_with (first
    | (at_make; refine wpList_make_blk rfl _ _ 22 rfl 5 i0 (.int .u8 0) Tryd.underlying22 HI.out.1 HI.out.2.1 HI.out.2.2.1 rfl .i64 .i64 _ _ n rfl rfl rfl rfl (by rw [HI.out.2.2.2]; omega) (by unfold maxLen; omega) ?_; intro w2 hb2 hB2 hs2; have HP := Lib.hid (oct_pre HB.out HR.out.1 hax hb2 hB2 hs2 (.slice (some ⟨w.heap.size, 0, none⟩) n n)); obtain ⟨u4, k4⟩ : ∃ u, w2.cell? ⟨x, 4, none⟩ = some u := ⟨cs[4]'(by omega), by rw [(HB.out.below hB2 hxlt).cell]; exact Array.getElem?_eq_getElem _⟩; have k5 := (HB.out.below hB2 hxlt).frozen 4; clear hb2 hB2 hs2)
    | (refine wpList_copy_only rfl _ _ _ _ rfl 5 Tryd.underlying22 u8size (some ⟨w.heap.size, 0, none⟩) (some ad) n n n c rfl rfl w.heap.size 0 (List.replicate n (Value.int .u8 0)) 5 HP.out.2.1 (bys l) HP.out.2.2.2.2 (fun _ => rfl) (by simp) (bys_one _) (bys l) HSP.out ?_; intro w4 hb4 hg4 hs4; have HB4 := Lib.hid (And.intro hb4 (And.intro hg4 hs4)); clear hb4 hg4 hs4))
  refine bodyPost_ret (v := .nilIface) (by kernel_rfl) rfl ?_
  obtain ⟨p1, p2, p3, p4, p5⟩ := HP.out
  obtain ⟨q1, q2, q3⟩ := HB4.out
  exact ⟨rfl, q1, p1.grown q2 (by intro e; injection e with e; omega), grown_new p3 (Nat.le_refl _) q2, by rw [q3]; exact p4⟩
def SetKid (x : Nat) (s : ByteArray) (cs : Array Value) (w : World) (e : Ending) (w' : World) : Prop :=
  e = .returned .nilIface ∧ Blk w' w.heap.size 9 #[.string s] ∧ Blk w' x 144 (cs.setIfInBounds 1 (.pointer (some ⟨w.heap.size, 0, none⟩))) ∧ w.grownBy w' (some x) ∧ w'.heap.size = w.heap.size + 1
set_option maxRecDepth 100000 in
set_option maxHeartbeats 4000000 in
theorem setKid_calls (w : World) (x : Nat) (cs : Array Value) (hb : Blk w x 144 cs) (hcs : cs.size = 9) (s : ByteArray) :
    Calls Tryd.prog 60 #[.pointer (some ⟨x, 0, none⟩), .string ⟨#[107, 105, 100]⟩, .iface 9 (.string s)] w (SetKid x s cs w) := by
  have hta : ∀ W, Sem.run Tryd.prog (Instr.typeAssert (.iface 9 (.string s)) 20 9 true) W = .ok (.tuple #[.string s, .bool true]) W := fun W => by kernel_rfl
  have hxlt := hb.lt
  have hw1 : Blk (w.alloc (.cells #[.string s] 9)) x 144 cs := hb.below (below_alloc' (Below.refl _ _) _) hxlt
  obtain ⟨u1, k1⟩ : ∃ u, (w.alloc (.cells #[.string s] 9)).cell? ⟨x, 1, none⟩ = some u := ⟨cs[1]'(by omega), by rw [hw1.cell]; exact Array.getElem?_eq_getElem _⟩
  have k2 := hw1.frozen 1
  have HB := Lib.hid hb
  clear hb hw1
  go_enter Tryd.func60, Tryd.ntmps60
  go_wp2
  refine bodyPost_ret (v := .nilIface) (by kernel_rfl) rfl ?_
  have hs : (w.setCell ⟨x, 1, none⟩ (.pointer (some ⟨w.heap.size, 0, none⟩))).heap.size = w.heap.size := by simp [World.setCell]
  refine ⟨rfl, ?_, (HB.out.set_ 1 _).below (below_alloc' (Below.refl _ _) _) (by rw [hs]; exact hxlt), grown_trans (setCell_grown w ⟨x, 1, none⟩ _) (grown_of_below (below_alloc' (Below.refl _ _) _) (Nat.le_refl _) _), by simp [hs]⟩
  have := Blk.new (w.setCell ⟨x, 1, none⟩ (.pointer (some ⟨w.heap.size, 0, none⟩))) 9 #[.string s]
  rwa [hs] at this
set_option maxRecDepth 100000 in
theorem SetKid_calls (w : World) (x : Nat) (cs : Array Value) (hb : Blk w x 144 cs) (hcs : cs.size = 9) (s : ByteArray) :
    Calls Tryd.prog 44 #[.pointer (some ⟨x, 0, none⟩), .string ⟨#[107, 105, 100]⟩, .iface 9 (.string s)] w (SetKid x s cs w) := by
  have H := Lib.hid (setKid_calls w x cs hb hcs s)
  clear hb hcs
  go_enter Tryd.func44, Tryd.ntmps44
  go_wp2_with (go_at_call 60; (with_reducible refine Calls.mono H.out ?_); rintro e w' ⟨rfl, hP⟩; have HP := Lib.hid hP; clear hP)
  go_ret
  exact ⟨rfl, HP.out⟩
set_option maxRecDepth 100000 in
theorem SetOct_calls (w : World) (x : Nat) (cs : Array Value) (hb : Blk w x 144 cs) (hcs : cs.size = 9) (ad : Addr) (n c : Nat) (l : List UInt8) (hl : l.length = n) (hr : Reads w 1 (some ad) n (bys l)) (hn : n ≤ 1000) (hax : ad.block ≠ x) :
    Calls Tryd.prog 44 #[.pointer (some ⟨x, 0, none⟩), .string ⟨#[107]⟩, .iface 22 (.slice (some ad) n c)] w (SetOct x n l cs w) := by
  have H := Lib.hid (setOct_calls w x cs hb hcs ad n c l hl hr hn hax)
  clear hb hcs hr
  go_enter Tryd.func44, Tryd.ntmps44
  go_wp2_with (go_at_call 60; (with_reducible refine Calls.mono H.out ?_); rintro e w' ⟨rfl, hP⟩; have HP := Lib.hid hP; clear hP)
  go_ret
  exact ⟨rfl, HP.out⟩
/-- A new key of these octets: its block x, its map, its octets' block. -/
def NewKey (n : Nat) (l : List UInt8) (w : World) (x : Nat) (w' : World) : Prop :=
  x = w.heap.size + 1 ∧ ∃ b, Blk w' b 5 (bys l).toArray ∧ Blk w' x 144 ((newK w.heap.size).setIfInBounds 4 (.slice (some ⟨b, 0, none⟩) n n)) ∧ MapN (fun _ => False) w' w.heap.size ∧ Below w.heap.size w w' ∧ w.heap.size + 1 < b ∧ w'.heap.size = b + 1
set_option maxRecDepth 100000 in
set_option maxHeartbeats 2000000 in
theorem NewSymmetric_calls (w : World) (ad : Addr) (n c : Nat) (l : List UInt8) (hl : l.length = n) (hr : Reads w 1 (some ad) n (bys l)) (hn : n ≤ 1000) (h0 : 0 < n) :
    Calls Tryd.prog 29 #[.slice (some ad) n c] w fun e w' => ∃ x, e = .returned (.tuple #[.iface 107 (.pointer (some ⟨x, 0, none⟩)), .nilIface]) ∧ NewKey n l w x w' := by
  have hlt : ad.block < w.heap.size := by obtain ⟨a', e', h, _⟩ := hr.2 h0; injection e' with e'; rw [e']; exact h
  have HR := Lib.hid (And.intro hr (And.intro hl hlt))
  have HN := Lib.hid (newSym_calls w)
  clear hr hl
  go_enter Tryd.func29, Tryd.ntmps29
  go_wp2_with (first
    | (go_at_call 43; (with_reducible refine Calls.mono HN.out ?_); rintro e w1 ⟨rfl, hM, hB, hbl, hsz⟩; have H1 := Lib.hid (And.intro hM (And.intro hB (And.intro hbl hsz))); have HC := Lib.hid (SetOct_calls w1 (w.heap.size + 1) _ hB (by rfl) ad n c l HR.out.2.1 (HR.out.1.below hbl (Nat.le_refl _)) hn (by omega)); clear hM hB hbl hsz)
    | (go_at_call 44; (with_reducible refine Calls.mono HC.out ?_); rintro e w2 ⟨rfl, hP⟩; have HP := Lib.hid hP; clear hP))
  obtain ⟨hM, hB, hbl, hsz⟩ := H1.out
  obtain ⟨p1, p2, p3, p4⟩ := HP.out
  refine bodyPost_ret (v := .tuple #[.iface 107 (.pointer (some ⟨w.heap.size + 1, 0, none⟩)), .nilIface]) (by kernel_rfl) rfl ?_
  exact ⟨_, rfl, rfl, w1.heap.size, p1, p2, hM.grown p3 (by simp), hbl.trans (below_of_grown p3 (by omega) (by omega)), by omega, p4⟩
end
end Go.Proofs.YtlbnemnadegapaaDoor.Ky
