/- Walks of impl.Joined, impl.Signing, impl.Prefix; the conditions are on sizes alone. -/
import Derived.Test.YteecamdcfkielaaDoorPartJoin
set_option linter.unusedVariables false
set_option linter.unusedSimpArgs false
namespace Go.Proofs.YteecamdcfkielaaDoor.B64
open Go.RowKit Go.Proofs.YteecamdcfkielaaDoor.K Go.Proofs.YteecamdcfkielaaDoor.Own
theorem DefaultEncoder_calls (w : World) : Calls Tryd.prog 16 #[] w (EncPost w) := by
  have H := Lib.hid (getEncoder_calls w)
  go_enter Tryd.func16, Tryd.ntmps16
  go_wp2_with fail
  refine H.out.mono ?_
  rintro e w' ⟨g, rfl, hg, hb, hB⟩
  have HB := Lib.hid hb
  have HBB := Lib.hid hB
  clear hb hB
  go_wp2
  go_ret
  exact ⟨g, rfl, hg, HB.out, HBB.out⟩
def signL (e : Bool) (h p : List UInt8) : List UInt8 := encRaw alURL h ++ ([46] ++ (if e then encRaw alURL p else p))
def joinL (e : Bool) (h p s : List UInt8) : List UInt8 := encRaw alURL h ++ ([46] ++ ((if e then encRaw alURL p else p) ++ ([46] ++ encRaw alURL s)))
theorem own_at {w : World} {base n c : Nat} {A : Option Addr} {xs : List Value} (h : w.ownsRow base 5 1 (.slice A n c) n xs) : ∀ ad, A = some ad → base ≤ ad.block ∧ ad.block < w.heap.size := by
  intro ad had
  subst had
  exact h.lt _ rfl
theorem own_cap {w : World} {base n c : Nat} {A : Option Addr} {xs : List Value} (h : w.ownsRow base 5 1 (.slice A n c) n xs) : c ≤ 9223372036854775807 := by
  rcases h.2 with ⟨hv, _⟩ | ⟨g, cap, cur, hv, _, _, _, hm, _⟩
  · injection hv with _ _ h; omega
  · injection hv with _ _ h; subst h; unfold maxLen at hm; omega
/-- A copy is a source: it lies outside what was before it. -/
theorem Src.of {w w1 w2 : World} {row : Option Nat} {A : Option Addr} {n c : Nat} {l : List UInt8} (ho : w1.ownsRow w.heap.size 5 1 (.slice A n c) n (bys l)) (hc : n ≤ c) (hn : n ≤ 2000) (hB : Below w1.heap.size w1 w2) (hr : ∀ k, row = some k → k < w.heap.size) : Src w2 row A n c l :=
  ⟨(Reads.of_own ho : RB w1 A n l).below hB (Nat.le_refl _), hc, hn, fun ad had => Nat.lt_of_lt_of_le (own_at ho ad had).2 hB.size, fun k hk ad had e => by have h1 := (own_at ho ad had).1; have h2 := hr k hk; omega⟩
def Made (w : World) (l : List UInt8) (e : Ending) (w' : World) : Prop := ∃ A n c, e = .returned (.slice A n c) ∧ n ≤ c ∧ n = l.length ∧ w'.ownsRow w.heap.size 5 1 (.slice A n c) n (bys l) ∧ Below w.heap.size w w'
def MadeOk (w : World) (l : List UInt8) (e : Ending) (w' : World) : Prop := ∃ A n c, e = .returned (.tuple #[.slice A n c, .bool true]) ∧ n ≤ c ∧ n = l.length ∧ w'.ownsRow w.heap.size 5 1 (.slice A n c) n (bys l) ∧ Below w.heap.size w w'
theorem Buf.below {w0 w : World} {row : Option Nat} {wi : World} {A : Option Addr} {n c : Nat} {l : List UInt8} (h : Buf w w0.heap.size row wi A n c l) (hB : Below w0.heap.size w0 w) (hr : ∀ k, row = some k → w0.heap.size ≤ k) : Below w0.heap.size w0 wi :=
  hB.trans ⟨h.low.os, h.low.tape, h.low.output, h.low.size, fun k hk => h.low.block k (Nat.lt_of_lt_of_le hk hB.size) (fun e => by have := hr k e.symm; omega)⟩
theorem row_lt {w1 : World} {base n c : Nat} {A : Option Addr} {xs : List Value} (h : w1.ownsRow base 5 1 (.slice A n c) n xs) : ∀ k, A.map (·.block) = some k → base ≤ k ∧ k < w1.heap.size := by
  intro k hk
  cases A with
  | none => cases hk
  | some ad =>
    obtain rfl := Option.some.inj hk
    exact own_at h ad rfl
theorem JoinCompact_any (en : Bool) (w : World) (base g nb cb : Nat) (Ab : Option Addr) (lb : List UInt8) (ho : w.ownsRow base 5 1 (.slice Ab nb cb) nb (bys lb)) (hcb : cb ≤ 9223372036854775807) (hbase : base ≤ w.heap.size) (he : EncAt w g) (hgr : ∀ k, Ab.map (·.block) = some k → g ≠ k)
    (Ah : Option Addr) (mh ch : Nat) (lh : List UInt8) (hh : Src w (Ab.map (·.block)) Ah mh ch lh) (Ap : Option Addr) (mp cp : Nat) (lp : List UInt8) (hp : Src w (Ab.map (·.block)) Ap mp cp lp) (As : Option Addr) (ms cs : Nat) (ls : List UInt8) (hs : Src w (Ab.map (·.block)) As ms cs ls) :
    Calls Tryd.prog 15 #[.slice Ab nb cb, .slice Ah mh ch, .slice Ap mp cp, .slice As ms cs, .iface 69 (.pointer (some ⟨g, 0, none⟩)), .bool en] w (BufPair w base (Ab.map (·.block)) (joinL en lh lp ls)) := by
  cases en
  · exact JoinCompact_false w base g nb cb Ab lb ho hcb hbase he hgr Ah mh ch lh hh Ap mp cp lp hp As ms cs ls hs
  · exact JoinCompact_true w base g nb cb Ab lb ho hcb hbase he hgr Ah mh ch lh hh Ap mp cp lp hp As ms cs ls hs
set_option maxRecDepth 100000 in
set_option maxHeartbeats 2000000 in
theorem Joined_calls (en : Bool) (w : World) (Ab Ah Ap As : Option Addr) (nb cb mh ch mp cp ms cs : Nat) (lb lh lp ls : List UInt8) (hb : RB w Ab nb lb) (hbn : nb ≤ 100000) (hh : RB w Ah mh lh) (hhn : mh ≤ 2000) (hp : RB w Ap mp lp) (hpn : mp ≤ 2000) (hs : RB w As ms ls) (hsn : ms ≤ 2000) :
    Calls Tryd.prog 8 #[.slice Ab nb cb, .slice Ah mh ch, .slice Ap mp cp, .slice As ms cs, .bool en] w (MadeOk w (joinL en lh lp ls)) := by
  have HLB := Lib.hid hb.len
  have HLH := Lib.hid hh.len
  have HLP := Lib.hid hp.len
  have HLS := Lib.hid hs.len
  have HB := Lib.hid hb
  have HH := Lib.hid hh
  have HP := Lib.hid hp
  have HS := Lib.hid hs
  clear hb hh hp hs
  go_enter Tryd.func8, Tryd.ntmps8
  have HC1 := Lib.hid (Clone_calls w Ab lb nb cb (HB.out) (by omega))
  go_wp2_with fail
  refine HC1.out.mono ?_
  rintro e w1 ⟨v1, rfl, ⟨B1, d1, rfl, hc1, ho1⟩, hB1⟩
  rw [← (HLB).out] at hc1 ho1 ⊢
  have HO1 := Lib.hid ho1
  have HD1 := Lib.hid hc1
  have HBB1 := Lib.hid hB1
  clear ho1 hc1 hB1
  have HC2 := Lib.hid (Clone_calls w1 Ah lh mh ch (HH.out.below HBB1.out (Nat.le_refl _)) (by omega))
  go_wp2_with fail
  refine HC2.out.mono ?_
  rintro e w2 ⟨v2, rfl, ⟨B2, d2, rfl, hc2, ho2⟩, hB2⟩
  rw [← (HLH).out] at hc2 ho2 ⊢
  have HO2 := Lib.hid ho2
  have HD2 := Lib.hid hc2
  have HBB2 := Lib.hid hB2
  clear ho2 hc2 hB2
  have HC3 := Lib.hid (Clone_calls w2 Ap lp mp cp ((HP.out.below HBB1.out (Nat.le_refl _)).below HBB2.out (Nat.le_refl _)) (by omega))
  go_wp2_with fail
  refine HC3.out.mono ?_
  rintro e w3 ⟨v3, rfl, ⟨B3, d3, rfl, hc3, ho3⟩, hB3⟩
  rw [← (HLP).out] at hc3 ho3 ⊢
  have HO3 := Lib.hid ho3
  have HD3 := Lib.hid hc3
  have HBB3 := Lib.hid hB3
  clear ho3 hc3 hB3
  have HC4 := Lib.hid (Clone_calls w3 As ls ms cs (((HS.out.below HBB1.out (Nat.le_refl _)).below HBB2.out (Nat.le_refl _)).below HBB3.out (Nat.le_refl _)) (by omega))
  go_wp2_with fail
  refine HC4.out.mono ?_
  rintro e w4 ⟨v4, rfl, ⟨B4, d4, rfl, hc4, ho4⟩, hB4⟩
  rw [← (HLS).out] at hc4 ho4 ⊢
  have HO4 := Lib.hid ho4
  have HD4 := Lib.hid hc4
  have HBB4 := Lib.hid hB4
  clear ho4 hc4 hB4
  have HDE := Lib.hid (DefaultEncoder_calls w4)
  go_wp2_with fail
  refine HDE.out.mono ?_
  rintro e w5 ⟨g, rfl, hg, hb, hB5⟩
  have HG := Lib.hid hg
  have HEN := Lib.hid hb
  have HBB5 := Lib.hid hB5
  clear hb hB5 hg
  have hB35 : Below w3.heap.size w3 w5 := below_then HBB4.out HBB5.out
  have hB25 : Below w2.heap.size w2 w5 := below_then HBB3.out hB35
  have hB15 : Below w1.heap.size w1 w5 := below_then HBB2.out hB25
  have hB05 : Below w.heap.size w w5 := below_then HBB1.out hB15
  have hJ := JoinCompact_any en w5 w.heap.size g nb d1 B1 lb (own_below HO1.out hB15) (own_cap HO1.out) hB05.size HEN.out (fun k hk e => by have h1 := (row_lt HO1.out k hk).2; have h2 := HG.out; have h3 := HBB2.out.size; have h4 := HBB3.out.size; have h5 := HBB4.out.size; omega)
    B2 mh d2 lh (Src.of HO2.out HD2.out hhn hB25 (fun k hk => (row_lt HO1.out k hk).2)) B3 mp d3 lp (Src.of HO3.out HD3.out hpn hB35 (fun k hk => Nat.lt_of_lt_of_le (row_lt HO1.out k hk).2 HBB2.out.size))
    B4 ms d4 ls (Src.of HO4.out HD4.out hsn HBB5.out (fun k hk => Nat.lt_of_lt_of_le (row_lt HO1.out k hk).2 (Nat.le_trans HBB2.out.size HBB3.out.size)))
  have HJ := Lib.hid hJ
  have HB05 := Lib.hid hB05
  clear hJ hB15 hB05 hB25 hB35
  go_wp2_with fail
  refine HJ.out.mono ?_
  rintro e w6 ⟨A6, n6, c6, rfl, hbuf⟩
  have HBUF := Lib.hid hbuf
  clear hbuf
  go_wp2
  go_ret2
  exact ⟨_, _, _, rfl, HBUF.out.cap, HBUF.out.len, HBUF.out.own, HBUF.out.below HB05.out (fun k hk => (row_lt HO1.out k hk).1)⟩
end Go.Proofs.YteecamdcfkielaaDoor.B64
