/- setNoLock of a token with any name and any value. -/
import Derived.Test.YtlahgmfpdfblkaaGreatClSet
set_option linter.unusedVariables false
set_option linter.unusedSimpArgs false
namespace Go.Proofs.YtlahgmfpdfblkaaGreat.Cl
open Go.RowKit Go.Proofs.YtlahgmfpdfblkaaGreat.K
def put_iss (st : St) (o : Option ByteArray) : St := match o with | none => st | some x => { st with iss := some x }
def put_jti (st : St) (o : Option ByteArray) : St := match o with | none => st | some x => { st with jti := some x }
def put_sub (st : St) (o : Option ByteArray) : St := match o with | none => st | some x => { st with sub := some x }
theorem str_nel (x : ByteArray) (l : List UInt8) (h : x ≠ ⟨l.toArray⟩) : (x.toList == l) = false := by
  rw [beq_eq_false_iff_ne, ByteArray.toList_eq]
  intro e
  exact h (Go.WideShapes.bytes_inj (by rw [e]))
theorem strb (x y : ByteArray) (h : (x.data.toList == y.data.toList) = false) : (x.toList == y.toList) = false := by
  rw [ByteArray.toList_eq, ByteArray.toList_eq]; exact h
set_option maxRecDepth 100000 in
set_option maxHeartbeats 2000000 in
theorem set_iss (w0 w : World) (g : Nat) (st : St) (v : Value) (o : Option ByteArray) (hv : VForm v o) (hB : Below w0.heap.size w0 w) (hg : w0.heap.size ≤ g) (ht : TokS w0 w g st) :
    Calls Tryz.prog 146 #[.pointer (some ⟨g, 0, none⟩), .string ⟨#[105, 115, 115]⟩, v] w (SPost w0 w g (put_iss st o)) := by
  have qaud : (((⟨#[105, 115, 115]⟩ : ByteArray)).toList == ((⟨#[97, 117, 100]⟩ : ByteArray)).toList) = false := strb _ _ (by decide)
  cases o with
  | none =>
    have hta := hv.ta
    have HE := Lib.hid (fun W s => errNew_calls W s)
    have HT := Lib.hid ht
    have HB := Lib.hid (below_alloc' hB (.cells #[.string ByteArray.empty] 9))
    clear ht hB hv
    simp only [Option.getD_none, Option.isSome_none] at hta
    go_enter Tryz.func146, Tryz.ntmps146
    go_wp2_with fail
    refine (HE.out _ _).mono ?_
    rintro e w2 ⟨⟨T, u, rfl⟩, hB2⟩
    have HB2 := Lib.hid (HB.out.trans (hB2.mono HB.out.size))
    have hBw : Below w.heap.size w w2 := ((Below.refl w.heap.size w).alloc (Nat.le_refl _) (.cells #[.string ByteArray.empty] 9)).trans (hB2.mono (by simp))
    have HT2 := Lib.hid (And.intro (HT.out.below hBw) (Fr.of (g := g) hBw))
    clear hB2 hBw
    go_wp2
    go_ret
    exact ⟨⟨_, rfl⟩, HB2.out, HT2.out.1, HT2.out.2⟩
  | some x =>
    have hta := hv.ta
    simp only [Option.getD_some, Option.isSome_some] at hta
    have HT := Lib.hid ht
    obtain ⟨A, n, c, pi, pj, ps, m, hb, hi, hj, hs, hm, hm0⟩ := ht
    have hb1 := hb.alloc (.cells #[.string x] 9)
    have hc2 : (w.alloc (.cells #[.string x] 9)).cell? ⟨g, 2, none⟩ = some (.pointer pi) := by rw [hb1.cell]; rfl
    have hf2 : (w.alloc (.cells #[.string x] 9)).frozen? ⟨g, 2, none⟩ = false := hb1.frozen 2
    have HB1 := Lib.hid hb1
    have HX := Lib.hid (And.intro hi (And.intro hj (And.intro hs (And.intro hm (And.intro hm0 (hm.ne hb))))))
    have HB := Lib.hid (And.intro (below_alloc' hB (.cells #[.string x] 9)) hg)
    clear hb hb1 hi hj hs hm hm0 hB hg hv
    go_enter Tryz.func146, Tryz.ntmps146
    go_wp2
    go_ret
    have hst := setCell_grown (w.alloc (.cells #[.string x] 9)) ⟨g, 2, none⟩ (.pointer (some ⟨w.heap.size, 0, none⟩))
    have hga := World.grownBy_alloc w (.cells #[.string x] 9) none
    obtain ⟨hi, hj, hs, hm, hm0, hgm⟩ := HX.out
    exact ⟨⟨_, rfl⟩, HB.out.1.grown hst HB.out.1.size (by intro j hj; cases hj; exact HB.out.2), ⟨A, n, c, _, _, _, m, HB1.out.set_ 2 _, (Or.inr ⟨x, w.heap.size, rfl, rfl, (Blk.new w 9 #[.string x]).far (by have := HT.out.lt; show w.heap.size ≠ g; omega) _, by have := HT.out.lt; omega⟩), ((hj.grown hga (fun _ _ _ _ e => by cases e)).grown hst (fun b x _ hne e => hne (Option.some.inj e))), ((hs.grown hga (fun _ _ _ _ e => by cases e)).grown hst (fun b x _ hne e => hne (Option.some.inj e))), (hm.grown hga (by intro e; cases e)).grown hst (fun e => hgm (Option.some.inj e).symm), hm0⟩, fun k T cs hk hne => (hk.alloc _).far hne _⟩
set_option maxRecDepth 100000 in
set_option maxHeartbeats 2000000 in
theorem set_jti (w0 w : World) (g : Nat) (st : St) (v : Value) (o : Option ByteArray) (hv : VForm v o) (hB : Below w0.heap.size w0 w) (hg : w0.heap.size ≤ g) (ht : TokS w0 w g st) :
    Calls Tryz.prog 146 #[.pointer (some ⟨g, 0, none⟩), .string ⟨#[106, 116, 105]⟩, v] w (SPost w0 w g (put_jti st o)) := by
  have qaud : (((⟨#[106, 116, 105]⟩ : ByteArray)).toList == ((⟨#[97, 117, 100]⟩ : ByteArray)).toList) = false := strb _ _ (by decide)
  have qiss : (((⟨#[106, 116, 105]⟩ : ByteArray)).toList == ((⟨#[105, 115, 115]⟩ : ByteArray)).toList) = false := strb _ _ (by decide)
  cases o with
  | none =>
    have hta := hv.ta
    have HE := Lib.hid (fun W s => errNew_calls W s)
    have HT := Lib.hid ht
    have HB := Lib.hid (below_alloc' hB (.cells #[.string ByteArray.empty] 9))
    clear ht hB hv
    simp only [Option.getD_none, Option.isSome_none] at hta
    go_enter Tryz.func146, Tryz.ntmps146
    go_wp2_with fail
    refine (HE.out _ _).mono ?_
    rintro e w2 ⟨⟨T, u, rfl⟩, hB2⟩
    have HB2 := Lib.hid (HB.out.trans (hB2.mono HB.out.size))
    have hBw : Below w.heap.size w w2 := ((Below.refl w.heap.size w).alloc (Nat.le_refl _) (.cells #[.string ByteArray.empty] 9)).trans (hB2.mono (by simp))
    have HT2 := Lib.hid (And.intro (HT.out.below hBw) (Fr.of (g := g) hBw))
    clear hB2 hBw
    go_wp2
    go_ret
    exact ⟨⟨_, rfl⟩, HB2.out, HT2.out.1, HT2.out.2⟩
  | some x =>
    have hta := hv.ta
    simp only [Option.getD_some, Option.isSome_some] at hta
    have HT := Lib.hid ht
    obtain ⟨A, n, c, pi, pj, ps, m, hb, hi, hj, hs, hm, hm0⟩ := ht
    have hb1 := hb.alloc (.cells #[.string x] 9)
    have hc2 : (w.alloc (.cells #[.string x] 9)).cell? ⟨g, 3, none⟩ = some (.pointer pj) := by rw [hb1.cell]; rfl
    have hf2 : (w.alloc (.cells #[.string x] 9)).frozen? ⟨g, 3, none⟩ = false := hb1.frozen 3
    have HB1 := Lib.hid hb1
    have HX := Lib.hid (And.intro hi (And.intro hj (And.intro hs (And.intro hm (And.intro hm0 (hm.ne hb))))))
    have HB := Lib.hid (And.intro (below_alloc' hB (.cells #[.string x] 9)) hg)
    clear hb hb1 hi hj hs hm hm0 hB hg hv
    go_enter Tryz.func146, Tryz.ntmps146
    go_wp2
    go_ret
    have hst := setCell_grown (w.alloc (.cells #[.string x] 9)) ⟨g, 3, none⟩ (.pointer (some ⟨w.heap.size, 0, none⟩))
    have hga := World.grownBy_alloc w (.cells #[.string x] 9) none
    obtain ⟨hi, hj, hs, hm, hm0, hgm⟩ := HX.out
    exact ⟨⟨_, rfl⟩, HB.out.1.grown hst HB.out.1.size (by intro j hj; cases hj; exact HB.out.2), ⟨A, n, c, _, _, _, m, HB1.out.set_ 3 _, ((hi.grown hga (fun _ _ _ _ e => by cases e)).grown hst (fun b x _ hne e => hne (Option.some.inj e))), (Or.inr ⟨x, w.heap.size, rfl, rfl, (Blk.new w 9 #[.string x]).far (by have := HT.out.lt; show w.heap.size ≠ g; omega) _, by have := HT.out.lt; omega⟩), ((hs.grown hga (fun _ _ _ _ e => by cases e)).grown hst (fun b x _ hne e => hne (Option.some.inj e))), (hm.grown hga (by intro e; cases e)).grown hst (fun e => hgm (Option.some.inj e).symm), hm0⟩, fun k T cs hk hne => (hk.alloc _).far hne _⟩
set_option maxRecDepth 100000 in
set_option maxHeartbeats 2000000 in
theorem set_sub (w0 w : World) (g : Nat) (st : St) (v : Value) (o : Option ByteArray) (hv : VForm v o) (hB : Below w0.heap.size w0 w) (hg : w0.heap.size ≤ g) (ht : TokS w0 w g st) :
    Calls Tryz.prog 146 #[.pointer (some ⟨g, 0, none⟩), .string ⟨#[115, 117, 98]⟩, v] w (SPost w0 w g (put_sub st o)) := by
  have qaud : (((⟨#[115, 117, 98]⟩ : ByteArray)).toList == ((⟨#[97, 117, 100]⟩ : ByteArray)).toList) = false := strb _ _ (by decide)
  have qiss : (((⟨#[115, 117, 98]⟩ : ByteArray)).toList == ((⟨#[105, 115, 115]⟩ : ByteArray)).toList) = false := strb _ _ (by decide)
  have qjti : (((⟨#[115, 117, 98]⟩ : ByteArray)).toList == ((⟨#[106, 116, 105]⟩ : ByteArray)).toList) = false := strb _ _ (by decide)
  cases o with
  | none =>
    have hta := hv.ta
    have HE := Lib.hid (fun W s => errNew_calls W s)
    have HT := Lib.hid ht
    have HB := Lib.hid (below_alloc' hB (.cells #[.string ByteArray.empty] 9))
    clear ht hB hv
    simp only [Option.getD_none, Option.isSome_none] at hta
    go_enter Tryz.func146, Tryz.ntmps146
    go_wp2_with fail
    refine (HE.out _ _).mono ?_
    rintro e w2 ⟨⟨T, u, rfl⟩, hB2⟩
    have HB2 := Lib.hid (HB.out.trans (hB2.mono HB.out.size))
    have hBw : Below w.heap.size w w2 := ((Below.refl w.heap.size w).alloc (Nat.le_refl _) (.cells #[.string ByteArray.empty] 9)).trans (hB2.mono (by simp))
    have HT2 := Lib.hid (And.intro (HT.out.below hBw) (Fr.of (g := g) hBw))
    clear hB2 hBw
    go_wp2
    go_ret
    exact ⟨⟨_, rfl⟩, HB2.out, HT2.out.1, HT2.out.2⟩
  | some x =>
    have hta := hv.ta
    simp only [Option.getD_some, Option.isSome_some] at hta
    have HT := Lib.hid ht
    obtain ⟨A, n, c, pi, pj, ps, m, hb, hi, hj, hs, hm, hm0⟩ := ht
    have hb1 := hb.alloc (.cells #[.string x] 9)
    have hc2 : (w.alloc (.cells #[.string x] 9)).cell? ⟨g, 4, none⟩ = some (.pointer ps) := by rw [hb1.cell]; rfl
    have hf2 : (w.alloc (.cells #[.string x] 9)).frozen? ⟨g, 4, none⟩ = false := hb1.frozen 4
    have HB1 := Lib.hid hb1
    have HX := Lib.hid (And.intro hi (And.intro hj (And.intro hs (And.intro hm (And.intro hm0 (hm.ne hb))))))
    have HB := Lib.hid (And.intro (below_alloc' hB (.cells #[.string x] 9)) hg)
    clear hb hb1 hi hj hs hm hm0 hB hg hv
    go_enter Tryz.func146, Tryz.ntmps146
    go_wp2
    go_ret
    have hst := setCell_grown (w.alloc (.cells #[.string x] 9)) ⟨g, 4, none⟩ (.pointer (some ⟨w.heap.size, 0, none⟩))
    have hga := World.grownBy_alloc w (.cells #[.string x] 9) none
    obtain ⟨hi, hj, hs, hm, hm0, hgm⟩ := HX.out
    exact ⟨⟨_, rfl⟩, HB.out.1.grown hst HB.out.1.size (by intro j hj; cases hj; exact HB.out.2), ⟨A, n, c, _, _, _, m, HB1.out.set_ 4 _, ((hi.grown hga (fun _ _ _ _ e => by cases e)).grown hst (fun b x _ hne e => hne (Option.some.inj e))), ((hj.grown hga (fun _ _ _ _ e => by cases e)).grown hst (fun b x _ hne e => hne (Option.some.inj e))), (Or.inr ⟨x, w.heap.size, rfl, rfl, (Blk.new w 9 #[.string x]).far (by have := HT.out.lt; show w.heap.size ≠ g; omega) _, by have := HT.out.lt; omega⟩), (hm.grown hga (by intro e; cases e)).grown hst (fun e => hgm (Option.some.inj e).symm), hm0⟩, fun k T cs hk hne => (hk.alloc _).far hne _⟩
set_option maxRecDepth 100000 in
set_option maxHeartbeats 2000000 in
theorem set_aud (w0 w : World) (g : Nat) (st : St) (v : Value) (o : Option ByteArray) (hv : VForm v o) (hB : Below w0.heap.size w0 w) (hg : w0.heap.size ≤ g) (ht : TokS w0 w g st) :
    Calls Tryz.prog 146 #[.pointer (some ⟨g, 0, none⟩), .string ⟨#[97, 117, 100]⟩, v] w (SPost w0 w g st) := by
  have HA := Lib.hid (Accept_any (w.alloc (.cells #[.slice none 0 0] 52)) w.heap.size v o hv (Blk.new w _ _))
  have HT := Lib.hid ht
  have HB := Lib.hid (And.intro (below_alloc' hB (.cells #[.slice none 0 0] 52)) (And.intro hB.size hg))
  have HE := Lib.hid (fun W s => errNew_calls W s)
  clear ht hB hg hv
  go_enter Tryz.func146, Tryz.ntmps146
  go_wp2_with fail
  refine HA.out.mono ?_
  rintro e w1 (⟨rfl, hg1, A1, n1, c1, hb1⟩ | ⟨⟨T, u, rfl⟩, hg1⟩)
  · have hc1 : w1.cell? ⟨w.heap.size, 0, none⟩ = some (.slice A1 n1 c1) := by rw [hb1.cell]; rfl
    have hbw : Below w.heap.size w w1 := ((Below.refl w.heap.size w).alloc (Nat.le_refl _) (.cells #[.slice none 0 0] 52)).grown hg1 (by simp) (by intro j hj; cases hj; exact Nat.le_refl _)
    have hT1 : TokS w0 w1 g st := HT.out.below hbw
    have HBW := Lib.hid hbw
    clear hbw
    have HB1 := Lib.hid (HB.out.1.grown hg1 (by have := HB.out.2.1; simp; omega) (by intro j hj; cases hj; exact HB.out.2.1))
    obtain ⟨A, n, c, pi, pj, ps, m, hb, hi, hj, hs, hm, hm0⟩ := hT1
    have hc2 : w1.cell? ⟨g, 1, none⟩ = some (.slice A n c) := by rw [hb.cell]; rfl
    have hf2 : w1.frozen? ⟨g, 1, none⟩ = false := hb.frozen 1
    have HX := Lib.hid (And.intro hb (And.intro hi (And.intro hj (And.intro hs (And.intro hm (And.intro hm0 (hm.ne hb)))))))
    clear hb hi hj hs hm hm0 hg1 hb1 HA
    go_wp2
    go_ret
    have hst := setCell_grown w1 ⟨g, 1, none⟩ (.slice A1 n1 c1)
    obtain ⟨hb, hi, hj, hs, hm, hm0, hgm⟩ := HX.out
    exact ⟨⟨_, rfl⟩, HB1.out.grown hst HB1.out.size (by intro j hj; cases hj; exact HB.out.2.2), ⟨A1, n1, c1, pi, pj, ps, m, hb.set_ 1 _, hi.grown hst (fun b x _ hne e => hne (Option.some.inj e)), hj.grown hst (fun b x _ hne e => hne (Option.some.inj e)), hs.grown hst (fun b x _ hne e => hne (Option.some.inj e)), hm.grown hst (fun e => hgm (Option.some.inj e).symm), hm0⟩, fun k T cs hk hne => (hk.below HBW.out hk.lt).far hne _⟩
  · have hbw : Below w.heap.size w w1 := ((Below.refl w.heap.size w).alloc (Nat.le_refl _) (.cells #[.slice none 0 0] 52)).grown hg1 (by simp) (by intro j hj; cases hj; exact Nat.le_refl _)
    have HT1 := Lib.hid (HT.out.below hbw)
    have HBW := Lib.hid hbw
    have HB1 := Lib.hid (HB.out.1.grown hg1 (by have := HB.out.2.1; simp; omega) (by intro j hj; cases hj; exact HB.out.2.1))
    clear hbw hg1 HA
    go_wp2_with fail
    refine (HE.out _ _).mono ?_
    rintro e w2 ⟨⟨T2, u2, rfl⟩, hB2⟩
    have HB2 := Lib.hid (HB1.out.trans (hB2.mono HB1.out.size))
    have HT2 := Lib.hid (And.intro (HT1.out.below hB2) (Fr.of (g := g) (below_then HBW.out hB2)))
    clear hB2
    go_wp2
    go_ret
    exact ⟨⟨_, rfl⟩, HB2.out, HT2.out.1, HT2.out.2⟩
set_option maxRecDepth 100000 in
set_option maxHeartbeats 2000000 in
theorem set_rest (w0 w : World) (g : Nat) (st : St) (v : Value) (o : Option ByteArray) (hv : VForm v o) (hB : Below w0.heap.size w0 w) (hg : w0.heap.size ≤ g) (ht : TokS w0 w g st) (name : ByteArray) (n1 : name ≠ ⟨#[97, 117, 100]⟩) (n2 : name ≠ ⟨#[105, 115, 115]⟩) (n3 : name ≠ ⟨#[106, 116, 105]⟩) (n4 : name ≠ ⟨#[115, 117, 98]⟩) :
    Calls Tryz.prog 146 #[.pointer (some ⟨g, 0, none⟩), .string name, v] w (SPost w0 w g st) := by
  have q1 : (name.toList == [97, 117, 100]) = false := str_nel name [97, 117, 100] n1
  have q2 : (name.toList == [105, 115, 115]) = false := str_nel name [105, 115, 115] n2
  have q3 : (name.toList == [106, 116, 105]) = false := str_nel name [106, 116, 105] n3
  have q4 : (name.toList == [115, 117, 98]) = false := str_nel name [115, 117, 98] n4
  obtain ⟨A, n, c, pi, pj, ps, m, hb, hi, hj, hs, hm, hm0⟩ := ht
  have hc5 : w.cell? ⟨g, 5, none⟩ = some (.map (some m)) := by rw [hb.cell]; rfl
  obtain ⟨w1, hup, hm1, hg1⟩ := run_mapUp w m hm name v
  have hmn : ∀ W : World, Sem.run Tryz.prog (binOp .eql 83 (.map (some m)) (.map none)) W = .ok (.bool false) W := fun W => by kernel_rfl
  have HX := Lib.hid (And.intro hb (And.intro hi (And.intro hj (And.intro hs (And.intro hm (And.intro hm0 (And.intro (hm.ne hb) (And.intro hm1 hg1))))))))
  have HB := Lib.hid hB
  clear hb hi hj hs hm hm0 hm1 hg1 hB n1 n2 n3 n4
  go_enter Tryz.func146, Tryz.ntmps146
  go_wp2
  go_ret
  obtain ⟨hb, hi, hj, hs, hm, hm0, hgm, hm1, hg1⟩ := HX.out
  have hne : ∀ b x, Blk w b 9 #[.string x] → b ≠ g → some b ≠ some m := fun b x h _ e => hm.ne h (Option.some.inj e)
  exact ⟨⟨_, rfl⟩, HB.out.grown hg1 HB.out.size (by intro j hj; cases hj; exact hm0), ⟨A, n, c, pi, pj, ps, m, hb.grown hg1 (fun e => hgm (Option.some.inj e)), hi.grown hg1 hne, hj.grown hg1 hne, hs.grown hg1 hne, hm1, hm0⟩, fun k T cs hk _ => hk.grown hg1 (fun e => hm.ne hk (Option.some.inj e))⟩
theorem set_any (w0 w : World) (g : Nat) (st : St) (v : Value) (o : Option ByteArray) (hv : VForm v o) (hB : Below w0.heap.size w0 w) (hg : w0.heap.size ≤ g) (ht : TokS w0 w g st) (name : ByteArray) :
    Calls Tryz.prog 146 #[.pointer (some ⟨g, 0, none⟩), .string name, v] w (SPost w0 w g (upd name o st)) := by
  by_cases n1 : name = ⟨#[97, 117, 100]⟩
  · subst n1
    have e : upd ⟨#[97, 117, 100]⟩ o st = st := by
      cases o with
      | none => rfl
      | some x => simp [upd, nIss, nJti, nSub]
    rw [e]
    exact set_aud w0 w g st v o hv hB hg ht
  by_cases n2 : name = ⟨#[105, 115, 115]⟩
  · subst n2
    have e : upd ⟨#[105, 115, 115]⟩ o st = put_iss st o := by cases o <;> simp [put_iss, upd, nIss]
    rw [e]
    exact set_iss w0 w g st v o hv hB hg ht
  by_cases n3 : name = ⟨#[106, 116, 105]⟩
  · subst n3
    have e : upd ⟨#[106, 116, 105]⟩ o st = put_jti st o := by cases o <;> simp [put_jti, upd, nIss, nJti]
    rw [e]
    exact set_jti w0 w g st v o hv hB hg ht
  by_cases n4 : name = ⟨#[115, 117, 98]⟩
  · subst n4
    have e : upd ⟨#[115, 117, 98]⟩ o st = put_sub st o := by cases o <;> simp [put_sub, upd, nIss, nJti, nSub]
    rw [e]
    exact set_sub w0 w g st v o hv hB hg ht
  have e : upd name o st = st := by
    cases o with
    | none => rfl
    | some x => simp [upd, nIss, nJti, nSub, n2, n3, n4]
  rw [e]
  exact set_rest w0 w g st v o hv hB hg ht name n1 n2 n3 n4
end Go.Proofs.YtlahgmfpdfblkaaGreat.Cl
