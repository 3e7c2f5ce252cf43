/- Walks of SigningPrefix, SignBuffer, JoinCompact: a buffer is filled from its head; the conditions are on sizes alone. -/
import Derived.Test.YteecamdcfkielaaDoorPartAwake
set_option linter.unusedVariables false
set_option linter.unusedSimpArgs false
namespace Go.Proofs.YteecamdcfkielaaDoor.B64
open Go.RowKit Go.Proofs.YteecamdcfkielaaDoor.K Go.Proofs.YteecamdcfkielaaDoor.Own
/-- A buffer that is filled: it lies in the row that came in, or in a new one. -/
structure Buf (w : World) (base : Nat) (row : Option Nat) (wi : World) (A : Option Addr) (n c : Nat) (l : List UInt8) : Prop where
  own : wi.ownsRow base 5 1 (.slice A n c) n (bys l)
  cap : n ≤ c
  low : w.grownBy wi row
  blk : ∀ k, A.map (·.block) = some k → row = some k ∨ w.heap.size ≤ k
  size_ : base ≤ w.heap.size
theorem Buf.len {w : World} {base : Nat} {row : Option Nat} {wi : World} {A : Option Addr} {n c : Nat} {l : List UInt8} (h : Buf w base row wi A n c l) : n = l.length := by
  have := h.own.1; simp [bys] at this; omega
/-- Bytes that are put in. -/
structure Src (w : World) (row : Option Nat) (A : Option Addr) (m c : Nat) (bs : List UInt8) : Prop where
  rb : RB w A m bs
  cap : m ≤ c
  le : m ≤ 2000
  lt : ∀ ad, A = some ad → ad.block < w.heap.size
  sep : ∀ k, row = some k → Sep A k
theorem rb_row {w wi : World} {row : Option Nat} {A : Option Addr} {m : Nat} {bs : List UInt8} (h : RB w A m bs) (hg : w.grownBy wi row) (hs : ∀ k, row = some k → Sep A k) : RB wi A m bs := by
  cases row with
  | none => exact ⟨h.1, fun hn => by
      obtain ⟨ad, e, hl, hc⟩ := h.2 hn
      refine ⟨ad, e, Nat.lt_of_lt_of_le hl hg.size, fun j u hu => ?_⟩
      rw [← hc j u hu]
      refine World.cell?_of_block ?_
      rw [block_of_add]
      exact hg.block _ hl (by simp)⟩
  | some k => exact RB.grown h hg (hs k rfl)
theorem enc_row {w wi : World} {row : Option Nat} {g : Nat} (h : EncAt w g) (hg : w.grownBy wi row) (hs : ∀ k, row = some k → g ≠ k) : EncAt wi g := by
  refine Blk.grown h hg ?_
  intro e
  exact hs g e.symm rfl
theorem grown_row {w wi w' : World} {row r2 : Option Nat} (h : w.grownBy wi row) (h2 : wi.grownBy w' r2) (hb : ∀ k, r2 = some k → row = some k ∨ w.heap.size ≤ k) : w.grownBy w' row :=
  ⟨h2.os.trans h.os, h2.tape.trans h.tape, h2.output.trans h.output, Nat.le_trans h.size h2.size, fun i hi hne => (h2.block i (Nat.lt_of_lt_of_le hi h.size) (fun e => by
    rcases hb i e.symm with h | h
    · exact hne h.symm
    · omega)).trans (h.block i hi hne)⟩
def BufPost (w : World) (base : Nat) (row : Option Nat) (n : Nat) (l : List UInt8) (e : Ending) (w' : World) : Prop := ∃ A' c', e = .returned (.slice A' n c') ∧ Buf w base row w' A' n c' l
theorem Buf.enc {w : World} {base : Nat} {row : Option Nat} {wi : World} {A : Option Addr} {n c : Nat} {l : List UInt8} (h : Buf w base row wi A n c l) {g : Nat} (he : EncAt w g) (hgr : ∀ k, row = some k → g ≠ k)
    {A2 : Option Addr} {m c2 : Nat} {bs : List UInt8} (hs : Src w row A2 m c2 bs) (hn : n ≤ 1000000) :
    Calls Tryd.prog 59 #[.pointer (some ⟨g, 0, none⟩), .slice A n c, .slice A2 m c2] wi (BufPost w base row (n + rawLen m) (l ++ encRaw alURL bs)) := by
  have hnl := h.len
  have hsz : w.heap.size ≤ wi.heap.size := h.low.size
  refine (AppendEncode_calls wi base g alURL (dmap alURL 64) alURL_len (dmap_len _ _) (enc_row he h.low hgr) A n c l (OwnB.mk' hnl h.cap h.own) (by omega) (Nat.le_trans h.size_ hsz) A2 m c2 bs (rb_row hs.rb h.low hs.sep) (by have := hs.le; omega) hs.cap (fun ad had ad2 had2 e => ?_)).mono ?_
  · rcases h.blk ad.block (by rw [had]; rfl) with hr | hr
    · exact hs.sep _ hr ad2 had2 e
    · have := hs.lt ad2 had2; omega
  · rintro e w' ⟨A', c', rfl, ⟨A'', c'', hv, hc'', ho⟩, hg, hb⟩
    injection hv with h1 h2 h3
    subst h1 h3
    have hlen : (l ++ encRaw alURL bs).length = n + rawLen m := by rw [List.length_append, encRaw_len, ← hnl, ← hs.rb.len]
    rw [hlen] at ho hc'' ⊢
    exact ⟨A', c', rfl, ho, hc'', grown_row h.low hg h.blk, fun k hk => by
      rcases hb k hk with hb | hb
      · exact h.blk k hb
      · exact .inr (by omega), h.size_⟩
/-- Bytes are put behind. -/
theorem Buf.more {w : World} {base : Nat} {row : Option Nat} {wi w1 w' : World} {A : Option Addr} {n c : Nat} {l x : List UInt8} {v' : Value} {k : Nat} (h : Buf w base row wi A n c l) (hl1 : w.grownBy w1 row)
    (ho : w'.ownsRow base 5 1 v' (n + k) (bys l ++ bys x)) (hg : w1.grownBy w' (Value.ownBlock (.slice A n c))) (hat : v'.ownBlock = Value.ownBlock (.slice A n c) ∨ v'.ownBlock = some w1.heap.size) :
    ∃ A' c', v' = .slice A' (n + k) c' ∧ Buf w base row w' A' (n + k) c' (l ++ x) := by
  obtain ⟨A', c', rfl, hc, _⟩ := own_form ho
  have e : ∀ (A : Option Addr) (n c : Nat), Value.ownBlock (.slice A n c) = A.map (·.block) := fun A n c => by cases A <;> rfl
  rw [e, e] at hat
  rw [e] at hg
  refine ⟨A', c', rfl, by rw [bys_append]; exact ho, hc, grown_row hl1 hg h.blk, fun k hk => ?_, h.size_⟩
  rcases hat with hat | hat
  · exact h.blk k (by rw [← hat, hk])
  · rw [hat] at hk
    have := Option.some.inj hk
    have := hl1.size
    exact .inr (by omega)
/-- An empty buffer: the row that came in, cut to nothing, or a new one. -/
theorem Buf.start {w : World} {base : Nat} {A : Option Addr} {n c : Nat} {l : List UInt8} (ho : w.ownsRow base 5 1 (.slice A n c) n (bys l)) (hb : base ≤ w.heap.size) : Buf w base (A.map (·.block)) w A 0 c [] := by
  refine ⟨⟨by simp [bys], ?_⟩, Nat.zero_le _, World.grownBy.refl _ _, fun k hk => .inl hk, hb⟩
  rcases ho.2 with ⟨hv, h0⟩ | ⟨g, cap, cur, hv, h1, h2, h3, h4, h5, h6⟩
  · injection hv with e1 e2 e3
    subst e1 e2 e3
    exact .inl ⟨rfl, rfl⟩
  · injection hv with e1 e2 e3
    subst e1 e3
    exact .inr ⟨g, c, cur, rfl, h1, h2, Nat.zero_le _, h4, h5, by simp [bys]⟩
theorem Buf.fresh {w w' : World} {base : Nat} {row : Option Nat} {T : Nat} {cs : Array Value} (hb : Blk w' w.heap.size 5 cs) (hB : Below w.heap.size w w') (hs : cs.size = T) (hT : T ≤ maxLen) (hbs : base ≤ w.heap.size) : Buf w base row w' (some ⟨w.heap.size, 0, none⟩) 0 T [] :=
  ⟨⟨by simp [bys], .inr ⟨w.heap.size, T, cs, rfl, hbs, hb, Nat.zero_le _, hT, by omega, by simp [bys]⟩⟩, Nat.zero_le _, grown_of_below hB (Nat.le_refl _) _, fun k hk => .inr (by have := Option.some.inj hk; simp at this; omega), hbs⟩
theorem rawLen_2000 {m : Nat} (h : m ≤ 2000) : rawLen m ≤ 4000 := by unfold rawLen; omega
/-- 'make([]T, 0, n)'. -/
theorem wpList_make_cap {P : Program} {ops : Array Oper} {rest : List Oper} {o : Oper} {a : Act} {Q : Exit → Act → World → Prop} {w : World} (hg : o.guard = none) (l c : Operand) (t : TypeId) (hop : o.op = Op.makeSlice t l c)
    (e : TypeId) (i : TypeInfo) (z : Value) (h1 : P.underlying t = some (.slice e)) (h2 : P.info? e = some i) (h3 : i.zero = some z) (h4 : i.size = 1) (hz : z.cells = #[z])
    (kl kc : IntKind) (L C : Int) (n : Nat) (hl : a.eval l = .int kl L) (hc : a.eval c = .int kc C) (hL : L = 0) (hC : C = (n : Int)) (b2 : i.bytes * n ≤ 281474976710656) (b3 : n ≤ maxLen)
    (hK : ∀ w', Blk w' w.heap.size e (Array.replicate n z) → Below w.heap.size w w' → w'.heap.size = w.heap.size + 1 → wpList P ops Q rest (a.put o.dst (.slice (some ⟨w.heap.size, 0, none⟩) 0 n)) w') :
    wpList P ops Q (o :: rest) a w := by
  refine wpList_plain hg fun K hK' => ?_
  have hb : (i.bytes : Int) * ((n : Nat) : Int) ≤ 281474976710656 := by
    have h : ((i.bytes * n : Nat) : Int) ≤ 281474976710656 := by omega
    rwa [Int.natCast_mul] at h
  have hrun := run_make (P := P) w t e i z h1 h2 h3 kl kc 0 (n : Int) (by omega) (by omega) hb (by simp only [maxLen] at b3; omega)
  subst hL
  subst hC
  simp only [Int.toNat_natCast, h4, hz, madeCells_one] at hrun
  unfold Oper.wp
  simp [execOp, hop, hl, hc, hrun, Result.andThen]
  exact hK' _ _ (hK _ (Blk.new _ _ _) ((Below.refl _ _).alloc (Nat.le_refl _) _) (by simp))
def BufAny (w : World) (base : Nat) (row : Option Nat) (l : List UInt8) (e : Ending) (w' : World) : Prop := ∃ A' n' c', e = .returned (.slice A' n' c') ∧ Buf w base row w' A' n' c' l
def BufPair (w : World) (base : Nat) (row : Option Nat) (l : List UInt8) (e : Ending) (w' : World) : Prop := ∃ A' n' c', e = .returned (.tuple #[.slice A' n' c', .nilIface]) ∧ Buf w base row w' A' n' c' l
set_option maxRecDepth 100000 in
set_option maxHeartbeats 4000000 in
theorem JoinCompact_true (w : World) (base g nb cb : Nat) (Ab : Option Addr) (lb : List UInt8) (ho : w.ownsRow base 5 1 (.slice Ab nb cb) nb (bys lb)) (hcb : cb ≤ 9223372036854775807) (hbase : base ≤ w.heap.size) (he : EncAt w g) (hgr : ∀ k, Ab.map (·.block) = some k → g ≠ k)
    (Ah : Option Addr) (mh ch : Nat) (lh : List UInt8) (hh : Src w (Ab.map (·.block)) Ah mh ch lh)
    (Ap : Option Addr) (mp cp : Nat) (lp : List UInt8) (hp : Src w (Ab.map (·.block)) Ap mp cp lp)
    (As : Option Addr) (ms cs : Nat) (ls : List UInt8) (hs : Src w (Ab.map (·.block)) As ms cs ls) :
    Calls Tryd.prog 15 #[.slice Ab nb cb, .slice Ah mh ch, .slice Ap mp cp, .slice As ms cs, .iface 69 (.pointer (some ⟨g, 0, none⟩)), .bool true] w (BufPair w base (Ab.map (·.block)) (encRaw alURL lh ++ ([46] ++ (encRaw alURL lp ++ ([46] ++ encRaw alURL ls))))) := by
  have hme : ∀ W : World, (method 220 69 (.pointer (some ⟨g, 0, none⟩)) "AppendEncode").run Tryd.prog W = .ok (59, .pointer (some ⟨g, 0, none⟩)) W := (fun W => by kernel_rfl)
  have hml : ∀ W : World, (method 220 69 (.pointer (some ⟨g, 0, none⟩)) "EncodedLen").run Tryd.prog W = .ok (64, .pointer (some ⟨g, 0, none⟩)) W := (fun W => by kernel_rfl)
  obtain ⟨i0, hi, hz0, hz1, hz2⟩ := info_parts info_u8
  have HI := Lib.hid (And.intro hi (And.intro hz0 (And.intro hz1 hz2)))
  have HO := Lib.hid ho
  have HE := Lib.hid he
  have HGR := Lib.hid hgr
  have h0 : ∀ (A : Option Addr) (n c : Nat) (W : World), (Instr.slice 23 (.slice A n c) none (some (.int .i64 0)) none).run Tryd.prog W = .ok (.slice A 0 c) W := fun A n c W => by
    have hel : Tryd.prog.elem 23 = 5 := by simp [Program.elem, Tryd.underlying23]
    have hu : Tryd.prog.underlying 23 = some (.slice (Tryd.prog.elem 23)) := by rw [hel]; exact Tryd.underlying23
    rw [run_slice_h W 23 A n c hu .i64 0 (by omega) (by omega), hel]
    cases A with
    | none => simp [sizeOf, typeInfo, HI.out.1, HI.out.2.2.1, sliced, Result.andThen]
    | some ad =>
      have : ad.add 0 = ad := by simp [Addr.add]
      simp [sizeOf, typeInfo, HI.out.1, HI.out.2.2.1, sliced, Result.andThen, this]
  have h01 := h0 Ab nb cb
  have HC := Lib.hid hcb
  have HSh := Lib.hid hh
  have hleh : mh ≤ 2000 := hh.le
  have HSp := Lib.hid hp
  have hlep : mp ≤ 2000 := hp.le
  have HSs := Lib.hid hs
  have hles : ms ≤ 2000 := hs.le
  clear ho he hgr hi hz0 hz1 hz2 hcb hh hp hs
  obtain ⟨T, hT⟩ : ∃ T, T = mh + mp + ms + 2 := ⟨_, rfl⟩
  have hTb : T ≤ 200001 := by omega
  have hTi : (mh : Int) + (mp : Int) + (ms : Int) + 2 = (T : Int) := by omega
  clear hT
  by_cases hroom : cb < T
  · have hri : (cb : Int) < (T : Int) := by omega
    go_enter Tryd.func15, Tryd.ntmps15
    go_wp2_with (at_make; refine wpList_make_cap rfl _ _ 23 rfl 5 i0 (.int .u8 0) Tryd.underlying23 HI.out.1 HI.out.2.1 HI.out.2.2.1 rfl .i64 .i64 _ _ T rfl rfl rfl rfl (by rw [HI.out.2.2.2]; omega) (by unfold maxLen; omega) ?_; intro w1 hb1 hB1 hs1; have hbf := Buf.fresh (row := Ab.map (·.block)) (T := T) hb1 hB1 (by simp) (by unfold maxLen; omega) hbase; have HB1 := Lib.hid hbf; clear hb1 hB1 hs1 hbf; have h02 := h0 (some ⟨w.heap.size, 0, none⟩) 0 T)
    have he1 := HB1.out.enc HE.out HGR.out HSh.out (by omega)
    have HE1 := Lib.hid he1
    clear he1
    go_wp2_with fail
    refine HE1.out.mono ?_
    rintro e w2 ⟨A2, c2, rfl, hb2⟩
    obtain ⟨N2, hN2⟩ : ∃ N, N = 0 + rawLen mh := ⟨_, rfl⟩
    have hNb2 : N2 ≤ 5000 := by rw [hN2]; have := rawLen_2000 HSh.out.le; omega
    rw [← hN2] at hb2 ⊢
    have HB2 := Lib.hid hb2
    have HN2 := Lib.hid hN2
    clear hb2 hN2
    go_wp2_with (first
      | (at_builtin; refine wpList_append_any _ rfl (.tmp 39) (.tmp 40) 23 rfl base 5 i0 (.int .u8 0) 1 1 Tryd.underlying23 HI.out.1 HI.out.2.1 HI.out.2.2.1 HI.out.2.2.2 rfl (by decide) _ N2 _ rfl (World.ownsRow.alloc HB2.out.own _) (some ⟨w2.heap.size, 0, none⟩) 1 1 (bys [46]) rfl (rb_lit w2 [46] 1 _ rfl rfl _) (bys_one _) (by unfold maxLen; omega) (by omega) (by have h1 := HB2.out.low.size; have h2 := HB2.out.size_; simp; omega) ?_; intro v3 w3 hown3 hg3 hat3; obtain ⟨A3, c3, rfl, hb3⟩ := HB2.out.more (grown_trans HB2.out.low (World.grownBy_alloc w2 _ _)) hown3 hg3 hat3; obtain ⟨N3, hN3⟩ : ∃ N, N = N2 + 1 := ⟨_, rfl⟩; have hNb3 : N3 ≤ 10000 := (by omega); rw [← hN3] at hb3 ⊢; have HB3 := Lib.hid hb3; clear hown3 hg3 hat3 hb3 hN3))
    have he3 := HB3.out.enc HE.out HGR.out HSp.out (by omega)
    have HE3 := Lib.hid he3
    clear he3
    go_wp2_with fail
    refine HE3.out.mono ?_
    rintro e w4 ⟨A4, c4, rfl, hb4⟩
    obtain ⟨N4, hN4⟩ : ∃ N, N = N3 + rawLen mp := ⟨_, rfl⟩
    have hNb4 : N4 ≤ 15000 := by rw [hN4]; have := rawLen_2000 HSp.out.le; omega
    rw [← hN4] at hb4 ⊢
    have HB4 := Lib.hid hb4
    have HN4 := Lib.hid hN4
    clear hb4 hN4
    go_wp2_with (first
      | (at_builtin; refine wpList_append_any _ rfl (.tmp 50) (.tmp 51) 23 rfl base 5 i0 (.int .u8 0) 1 1 Tryd.underlying23 HI.out.1 HI.out.2.1 HI.out.2.2.1 HI.out.2.2.2 rfl (by decide) _ N4 _ rfl (World.ownsRow.alloc HB4.out.own _) (some ⟨w4.heap.size, 0, none⟩) 1 1 (bys [46]) rfl (rb_lit w4 [46] 1 _ rfl rfl _) (bys_one _) (by unfold maxLen; omega) (by omega) (by have h1 := HB4.out.low.size; have h2 := HB4.out.size_; simp; omega) ?_; intro v3 w5 hown3 hg3 hat3; obtain ⟨A5, c5, rfl, hb3⟩ := HB4.out.more (grown_trans HB4.out.low (World.grownBy_alloc w4 _ _)) hown3 hg3 hat3; obtain ⟨N5, hN5⟩ : ∃ N, N = N4 + 1 := ⟨_, rfl⟩; have hNb5 : N5 ≤ 20000 := (by omega); rw [← hN5] at hb3 ⊢; have HB5 := Lib.hid hb3; clear hown3 hg3 hat3 hb3 hN5))
    have he5 := HB5.out.enc HE.out HGR.out HSs.out (by omega)
    have HE5 := Lib.hid he5
    clear he5
    go_wp2_with fail
    refine HE5.out.mono ?_
    rintro e w6 ⟨A6, c6, rfl, hb6⟩
    obtain ⟨N6, hN6⟩ : ∃ N, N = N5 + rawLen ms := ⟨_, rfl⟩
    have hNb6 : N6 ≤ 25000 := by rw [hN6]; have := rawLen_2000 HSs.out.le; omega
    rw [← hN6] at hb6 ⊢
    have HB6 := Lib.hid hb6
    have HN6 := Lib.hid hN6
    clear hb6 hN6
    go_wp2
    go_ret2
    exact ⟨_, _, _, rfl, by have h := HB6.out; simpa [List.append_assoc] using h⟩
  · have hri : ¬ (cb : Int) < (T : Int) := by omega
    have HB1 := Lib.hid (Buf.start HO.out hbase)
    go_enter Tryd.func15, Tryd.ntmps15
    have he1 := HB1.out.enc HE.out HGR.out HSh.out (by omega)
    have HE1 := Lib.hid he1
    clear he1
    go_wp2_with fail
    refine HE1.out.mono ?_
    rintro e w2 ⟨A2, c2, rfl, hb2⟩
    obtain ⟨N2, hN2⟩ : ∃ N, N = 0 + rawLen mh := ⟨_, rfl⟩
    have hNb2 : N2 ≤ 5000 := by rw [hN2]; have := rawLen_2000 HSh.out.le; omega
    rw [← hN2] at hb2 ⊢
    have HB2 := Lib.hid hb2
    have HN2 := Lib.hid hN2
    clear hb2 hN2
    go_wp2_with (first
      | (at_builtin; refine wpList_append_any _ rfl (.tmp 39) (.tmp 40) 23 rfl base 5 i0 (.int .u8 0) 1 1 Tryd.underlying23 HI.out.1 HI.out.2.1 HI.out.2.2.1 HI.out.2.2.2 rfl (by decide) _ N2 _ rfl (World.ownsRow.alloc HB2.out.own _) (some ⟨w2.heap.size, 0, none⟩) 1 1 (bys [46]) rfl (rb_lit w2 [46] 1 _ rfl rfl _) (bys_one _) (by unfold maxLen; omega) (by omega) (by have h1 := HB2.out.low.size; have h2 := HB2.out.size_; simp; omega) ?_; intro v3 w3 hown3 hg3 hat3; obtain ⟨A3, c3, rfl, hb3⟩ := HB2.out.more (grown_trans HB2.out.low (World.grownBy_alloc w2 _ _)) hown3 hg3 hat3; obtain ⟨N3, hN3⟩ : ∃ N, N = N2 + 1 := ⟨_, rfl⟩; have hNb3 : N3 ≤ 10000 := (by omega); rw [← hN3] at hb3 ⊢; have HB3 := Lib.hid hb3; clear hown3 hg3 hat3 hb3 hN3))
    have he3 := HB3.out.enc HE.out HGR.out HSp.out (by omega)
    have HE3 := Lib.hid he3
    clear he3
    go_wp2_with fail
    refine HE3.out.mono ?_
    rintro e w4 ⟨A4, c4, rfl, hb4⟩
    obtain ⟨N4, hN4⟩ : ∃ N, N = N3 + rawLen mp := ⟨_, rfl⟩
    have hNb4 : N4 ≤ 15000 := by rw [hN4]; have := rawLen_2000 HSp.out.le; omega
    rw [← hN4] at hb4 ⊢
    have HB4 := Lib.hid hb4
    have HN4 := Lib.hid hN4
    clear hb4 hN4
    go_wp2_with (first
      | (at_builtin; refine wpList_append_any _ rfl (.tmp 50) (.tmp 51) 23 rfl base 5 i0 (.int .u8 0) 1 1 Tryd.underlying23 HI.out.1 HI.out.2.1 HI.out.2.2.1 HI.out.2.2.2 rfl (by decide) _ N4 _ rfl (World.ownsRow.alloc HB4.out.own _) (some ⟨w4.heap.size, 0, none⟩) 1 1 (bys [46]) rfl (rb_lit w4 [46] 1 _ rfl rfl _) (bys_one _) (by unfold maxLen; omega) (by omega) (by have h1 := HB4.out.low.size; have h2 := HB4.out.size_; simp; omega) ?_; intro v3 w5 hown3 hg3 hat3; obtain ⟨A5, c5, rfl, hb3⟩ := HB4.out.more (grown_trans HB4.out.low (World.grownBy_alloc w4 _ _)) hown3 hg3 hat3; obtain ⟨N5, hN5⟩ : ∃ N, N = N4 + 1 := ⟨_, rfl⟩; have hNb5 : N5 ≤ 20000 := (by omega); rw [← hN5] at hb3 ⊢; have HB5 := Lib.hid hb3; clear hown3 hg3 hat3 hb3 hN5))
    have he5 := HB5.out.enc HE.out HGR.out HSs.out (by omega)
    have HE5 := Lib.hid he5
    clear he5
    go_wp2_with fail
    refine HE5.out.mono ?_
    rintro e w6 ⟨A6, c6, rfl, hb6⟩
    obtain ⟨N6, hN6⟩ : ∃ N, N = N5 + rawLen ms := ⟨_, rfl⟩
    have hNb6 : N6 ≤ 25000 := by rw [hN6]; have := rawLen_2000 HSs.out.le; omega
    rw [← hN6] at hb6 ⊢
    have HB6 := Lib.hid hb6
    have HN6 := Lib.hid hN6
    clear hb6 hN6
    go_wp2
    go_ret2
    exact ⟨_, _, _, rfl, by have h := HB6.out; simpa [List.append_assoc] using h⟩
set_option maxRecDepth 100000 in
set_option maxHeartbeats 4000000 in
theorem JoinCompact_false (w : World) (base g nb cb : Nat) (Ab : Option Addr) (lb : List UInt8) (ho : w.ownsRow base 5 1 (.slice Ab nb cb) nb (bys lb)) (hcb : cb ≤ 9223372036854775807) (hbase : base ≤ w.heap.size) (he : EncAt w g) (hgr : ∀ k, Ab.map (·.block) = some k → g ≠ k)
    (Ah : Option Addr) (mh ch : Nat) (lh : List UInt8) (hh : Src w (Ab.map (·.block)) Ah mh ch lh)
    (Ap : Option Addr) (mp cp : Nat) (lp : List UInt8) (hp : Src w (Ab.map (·.block)) Ap mp cp lp)
    (As : Option Addr) (ms cs : Nat) (ls : List UInt8) (hs : Src w (Ab.map (·.block)) As ms cs ls) :
    Calls Tryd.prog 15 #[.slice Ab nb cb, .slice Ah mh ch, .slice Ap mp cp, .slice As ms cs, .iface 69 (.pointer (some ⟨g, 0, none⟩)), .bool false] w (BufPair w base (Ab.map (·.block)) (encRaw alURL lh ++ ([46] ++ (lp ++ ([46] ++ encRaw alURL ls))))) := by
  have hme : ∀ W : World, (method 220 69 (.pointer (some ⟨g, 0, none⟩)) "AppendEncode").run Tryd.prog W = .ok (59, .pointer (some ⟨g, 0, none⟩)) W := (fun W => by kernel_rfl)
  have hml : ∀ W : World, (method 220 69 (.pointer (some ⟨g, 0, none⟩)) "EncodedLen").run Tryd.prog W = .ok (64, .pointer (some ⟨g, 0, none⟩)) W := (fun W => by kernel_rfl)
  obtain ⟨i0, hi, hz0, hz1, hz2⟩ := info_parts info_u8
  have HI := Lib.hid (And.intro hi (And.intro hz0 (And.intro hz1 hz2)))
  have HO := Lib.hid ho
  have HE := Lib.hid he
  have HGR := Lib.hid hgr
  have h0 : ∀ (A : Option Addr) (n c : Nat) (W : World), (Instr.slice 23 (.slice A n c) none (some (.int .i64 0)) none).run Tryd.prog W = .ok (.slice A 0 c) W := fun A n c W => by
    have hel : Tryd.prog.elem 23 = 5 := by simp [Program.elem, Tryd.underlying23]
    have hu : Tryd.prog.underlying 23 = some (.slice (Tryd.prog.elem 23)) := by rw [hel]; exact Tryd.underlying23
    rw [run_slice_h W 23 A n c hu .i64 0 (by omega) (by omega), hel]
    cases A with
    | none => simp [sizeOf, typeInfo, HI.out.1, HI.out.2.2.1, sliced, Result.andThen]
    | some ad =>
      have : ad.add 0 = ad := by simp [Addr.add]
      simp [sizeOf, typeInfo, HI.out.1, HI.out.2.2.1, sliced, Result.andThen, this]
  have h01 := h0 Ab nb cb
  have HC := Lib.hid hcb
  have HSh := Lib.hid hh
  have hleh : mh ≤ 2000 := hh.le
  have HSp := Lib.hid hp
  have hlep : mp ≤ 2000 := hp.le
  have HSs := Lib.hid hs
  have hles : ms ≤ 2000 := hs.le
  clear ho he hgr hi hz0 hz1 hz2 hcb hh hp hs
  obtain ⟨T, hT⟩ : ∃ T, T = mh + mp + ms + 2 := ⟨_, rfl⟩
  have hTb : T ≤ 200001 := by omega
  have hTi : (mh : Int) + (mp : Int) + (ms : Int) + 2 = (T : Int) := by omega
  clear hT
  by_cases hroom : cb < T
  · have hri : (cb : Int) < (T : Int) := by omega
    go_enter Tryd.func15, Tryd.ntmps15
    go_wp2_with (at_make; refine wpList_make_cap rfl _ _ 23 rfl 5 i0 (.int .u8 0) Tryd.underlying23 HI.out.1 HI.out.2.1 HI.out.2.2.1 rfl .i64 .i64 _ _ T rfl rfl rfl rfl (by rw [HI.out.2.2.2]; omega) (by unfold maxLen; omega) ?_; intro w1 hb1 hB1 hs1; have hbf := Buf.fresh (row := Ab.map (·.block)) (T := T) hb1 hB1 (by simp) (by unfold maxLen; omega) hbase; have HB1 := Lib.hid hbf; clear hb1 hB1 hs1 hbf; have h02 := h0 (some ⟨w.heap.size, 0, none⟩) 0 T)
    have he1 := HB1.out.enc HE.out HGR.out HSh.out (by omega)
    have HE1 := Lib.hid he1
    clear he1
    go_wp2_with fail
    refine HE1.out.mono ?_
    rintro e w2 ⟨A2, c2, rfl, hb2⟩
    obtain ⟨N2, hN2⟩ : ∃ N, N = 0 + rawLen mh := ⟨_, rfl⟩
    have hNb2 : N2 ≤ 5000 := by rw [hN2]; have := rawLen_2000 HSh.out.le; omega
    rw [← hN2] at hb2 ⊢
    have HB2 := Lib.hid hb2
    have HN2 := Lib.hid hN2
    clear hb2 hN2
    go_wp2_with (first
      | (at_builtin; refine wpList_append_any _ rfl (.tmp 39) (.tmp 40) 23 rfl base 5 i0 (.int .u8 0) 1 1 Tryd.underlying23 HI.out.1 HI.out.2.1 HI.out.2.2.1 HI.out.2.2.2 rfl (by decide) _ N2 _ rfl (World.ownsRow.alloc HB2.out.own _) (some ⟨w2.heap.size, 0, none⟩) 1 1 (bys [46]) rfl (rb_lit w2 [46] 1 _ rfl rfl _) (bys_one _) (by unfold maxLen; omega) (by omega) (by have h1 := HB2.out.low.size; have h2 := HB2.out.size_; simp; omega) ?_; intro v3 w3 hown3 hg3 hat3; obtain ⟨A3, c3, rfl, hb3⟩ := HB2.out.more (grown_trans HB2.out.low (World.grownBy_alloc w2 _ _)) hown3 hg3 hat3; obtain ⟨N3, hN3⟩ : ∃ N, N = N2 + 1 := ⟨_, rfl⟩; have hNb3 : N3 ≤ 10000 := (by omega); rw [← hN3] at hb3 ⊢; have HB3 := Lib.hid hb3; clear hown3 hg3 hat3 hb3 hN3)
      | (at_builtin; refine wpList_append_any _ rfl (.tmp 47) (.tmp 48) 23 rfl base 5 i0 (.int .u8 0) 1 1 Tryd.underlying23 HI.out.1 HI.out.2.1 HI.out.2.2.1 HI.out.2.2.2 rfl (by decide) _ N3 _ rfl HB3.out.own Ap mp cp (bys lp) rfl (rb_row HSp.out.rb HB3.out.low HSp.out.sep) (bys_one _) (by unfold maxLen; omega) (by omega) (by have h1 := HB3.out.low.size; have h2 := HB3.out.size_; omega) ?_; intro v3 w4 hown3 hg3 hat3; obtain ⟨A4, c4, rfl, hb3⟩ := HB3.out.more HB3.out.low hown3 hg3 hat3; obtain ⟨N4, hN4⟩ : ∃ N, N = N3 + mp := ⟨_, rfl⟩; have hNb4 : N4 ≤ 15000 := (by omega); rw [← hN4] at hb3 ⊢; have HB4 := Lib.hid hb3; clear hown3 hg3 hat3 hb3 hN4)
      | (at_builtin; refine wpList_append_any _ rfl (.tmp 50) (.tmp 51) 23 rfl base 5 i0 (.int .u8 0) 1 1 Tryd.underlying23 HI.out.1 HI.out.2.1 HI.out.2.2.1 HI.out.2.2.2 rfl (by decide) _ N4 _ rfl (World.ownsRow.alloc HB4.out.own _) (some ⟨w4.heap.size, 0, none⟩) 1 1 (bys [46]) rfl (rb_lit w4 [46] 1 _ rfl rfl _) (bys_one _) (by unfold maxLen; omega) (by omega) (by have h1 := HB4.out.low.size; have h2 := HB4.out.size_; simp; omega) ?_; intro v3 w5 hown3 hg3 hat3; obtain ⟨A5, c5, rfl, hb3⟩ := HB4.out.more (grown_trans HB4.out.low (World.grownBy_alloc w4 _ _)) hown3 hg3 hat3; obtain ⟨N5, hN5⟩ : ∃ N, N = N4 + 1 := ⟨_, rfl⟩; have hNb5 : N5 ≤ 20000 := (by omega); rw [← hN5] at hb3 ⊢; have HB5 := Lib.hid hb3; clear hown3 hg3 hat3 hb3 hN5))
    have he5 := HB5.out.enc HE.out HGR.out HSs.out (by omega)
    have HE5 := Lib.hid he5
    clear he5
    go_wp2_with fail
    refine HE5.out.mono ?_
    rintro e w6 ⟨A6, c6, rfl, hb6⟩
    obtain ⟨N6, hN6⟩ : ∃ N, N = N5 + rawLen ms := ⟨_, rfl⟩
    have hNb6 : N6 ≤ 25000 := by rw [hN6]; have := rawLen_2000 HSs.out.le; omega
    rw [← hN6] at hb6 ⊢
    have HB6 := Lib.hid hb6
    have HN6 := Lib.hid hN6
    clear hb6 hN6
    go_wp2
    go_ret2
    exact ⟨_, _, _, rfl, by have h := HB6.out; simpa [List.append_assoc] using h⟩
  · have hri : ¬ (cb : Int) < (T : Int) := by omega
    have HB1 := Lib.hid (Buf.start HO.out hbase)
    go_enter Tryd.func15, Tryd.ntmps15
    have he1 := HB1.out.enc HE.out HGR.out HSh.out (by omega)
    have HE1 := Lib.hid he1
    clear he1
    go_wp2_with fail
    refine HE1.out.mono ?_
    rintro e w2 ⟨A2, c2, rfl, hb2⟩
    obtain ⟨N2, hN2⟩ : ∃ N, N = 0 + rawLen mh := ⟨_, rfl⟩
    have hNb2 : N2 ≤ 5000 := by rw [hN2]; have := rawLen_2000 HSh.out.le; omega
    rw [← hN2] at hb2 ⊢
    have HB2 := Lib.hid hb2
    have HN2 := Lib.hid hN2
    clear hb2 hN2
    go_wp2_with (first
      | (at_builtin; refine wpList_append_any _ rfl (.tmp 39) (.tmp 40) 23 rfl base 5 i0 (.int .u8 0) 1 1 Tryd.underlying23 HI.out.1 HI.out.2.1 HI.out.2.2.1 HI.out.2.2.2 rfl (by decide) _ N2 _ rfl (World.ownsRow.alloc HB2.out.own _) (some ⟨w2.heap.size, 0, none⟩) 1 1 (bys [46]) rfl (rb_lit w2 [46] 1 _ rfl rfl _) (bys_one _) (by unfold maxLen; omega) (by omega) (by have h1 := HB2.out.low.size; have h2 := HB2.out.size_; simp; omega) ?_; intro v3 w3 hown3 hg3 hat3; obtain ⟨A3, c3, rfl, hb3⟩ := HB2.out.more (grown_trans HB2.out.low (World.grownBy_alloc w2 _ _)) hown3 hg3 hat3; obtain ⟨N3, hN3⟩ : ∃ N, N = N2 + 1 := ⟨_, rfl⟩; have hNb3 : N3 ≤ 10000 := (by omega); rw [← hN3] at hb3 ⊢; have HB3 := Lib.hid hb3; clear hown3 hg3 hat3 hb3 hN3)
      | (at_builtin; refine wpList_append_any _ rfl (.tmp 47) (.tmp 48) 23 rfl base 5 i0 (.int .u8 0) 1 1 Tryd.underlying23 HI.out.1 HI.out.2.1 HI.out.2.2.1 HI.out.2.2.2 rfl (by decide) _ N3 _ rfl HB3.out.own Ap mp cp (bys lp) rfl (rb_row HSp.out.rb HB3.out.low HSp.out.sep) (bys_one _) (by unfold maxLen; omega) (by omega) (by have h1 := HB3.out.low.size; have h2 := HB3.out.size_; omega) ?_; intro v3 w4 hown3 hg3 hat3; obtain ⟨A4, c4, rfl, hb3⟩ := HB3.out.more HB3.out.low hown3 hg3 hat3; obtain ⟨N4, hN4⟩ : ∃ N, N = N3 + mp := ⟨_, rfl⟩; have hNb4 : N4 ≤ 15000 := (by omega); rw [← hN4] at hb3 ⊢; have HB4 := Lib.hid hb3; clear hown3 hg3 hat3 hb3 hN4)
      | (at_builtin; refine wpList_append_any _ rfl (.tmp 50) (.tmp 51) 23 rfl base 5 i0 (.int .u8 0) 1 1 Tryd.underlying23 HI.out.1 HI.out.2.1 HI.out.2.2.1 HI.out.2.2.2 rfl (by decide) _ N4 _ rfl (World.ownsRow.alloc HB4.out.own _) (some ⟨w4.heap.size, 0, none⟩) 1 1 (bys [46]) rfl (rb_lit w4 [46] 1 _ rfl rfl _) (bys_one _) (by unfold maxLen; omega) (by omega) (by have h1 := HB4.out.low.size; have h2 := HB4.out.size_; simp; omega) ?_; intro v3 w5 hown3 hg3 hat3; obtain ⟨A5, c5, rfl, hb3⟩ := HB4.out.more (grown_trans HB4.out.low (World.grownBy_alloc w4 _ _)) hown3 hg3 hat3; obtain ⟨N5, hN5⟩ : ∃ N, N = N4 + 1 := ⟨_, rfl⟩; have hNb5 : N5 ≤ 20000 := (by omega); rw [← hN5] at hb3 ⊢; have HB5 := Lib.hid hb3; clear hown3 hg3 hat3 hb3 hN5))
    have he5 := HB5.out.enc HE.out HGR.out HSs.out (by omega)
    have HE5 := Lib.hid he5
    clear he5
    go_wp2_with fail
    refine HE5.out.mono ?_
    rintro e w6 ⟨A6, c6, rfl, hb6⟩
    obtain ⟨N6, hN6⟩ : ∃ N, N = N5 + rawLen ms := ⟨_, rfl⟩
    have hNb6 : N6 ≤ 25000 := by rw [hN6]; have := rawLen_2000 HSs.out.le; omega
    rw [← hN6] at hb6 ⊢
    have HB6 := Lib.hid hb6
    have HN6 := Lib.hid hN6
    clear hb6 hN6
    go_wp2
    go_ret2
    exact ⟨_, _, _, rfl, by have h := HB6.out; simpa [List.append_assoc] using h⟩
end Go.Proofs.YteecamdcfkielaaDoor.B64
