/- Walks of AppendEncode and impl.EncodedBehind; the conditions are on sizes alone. -/
import Derived.Test.YtimicibalhaljaaPartSign
set_option linter.unusedVariables false
set_option linter.unusedSimpArgs false
namespace Go.Proofs.Ytimicibalhaljaa.B64
open Go.RowKit Go.Proofs.Ytimicibalhaljaa.K Go.Proofs.Ytimicibalhaljaa.Own
theorem Made.cast {w : World} {l l' : List UInt8} {e : Ending} {w' : World} (h : l = l') (hm : Made w l e w') : Made w l' e w' := h ▸ hm
def Behind (w : World) (base : Nat) (row : Option Nat) (l : List UInt8) (e : Ending) (w' : World) : Prop := ∃ w1, Below w.heap.size w w1 ∧ BufAny w1 base row l e w'
set_option maxRecDepth 100000 in
theorem AppendEncode1_calls (w : World) (base : Nat) (A : Option Addr) (n c : Nat) (l : List UInt8) (ho : w.ownsRow base 5 1 (.slice A n c) n (bys l)) (hc : n ≤ c) (hn : n ≤ 1000000) (hb : base ≤ w.heap.size)
    (A2 : Option Addr) (m c2 : Nat) (bs : List UInt8) (hs : Src w (A.map (·.block)) A2 m c2 bs) :
    Calls Try.prog 34 #[.slice A n c, .slice A2 m c2] w (Behind w base (A.map (·.block)) (l ++ encRaw alURL bs)) := by
  have HE := Lib.hid (getEncoder_calls w)
  have HO := Lib.hid ho
  have HS := Lib.hid hs
  clear ho hs
  go_enter Try.func34, Try.ntmps34
  go_wp2_with fail
  refine HE.out.mono ?_
  rintro e w1 ⟨g, rfl, hg, he, hB⟩
  have hme : ∀ W : World, (method 222 79 (.pointer (some ⟨g, 0, none⟩)) "AppendEncode").run Try.prog W = .ok (82, .pointer (some ⟨g, 0, none⟩)) W := (fun W => by kernel_rfl)
  have hbuf : Buf w1 base (A.map (·.block)) w1 A n c l := ⟨own_below HO.out hB, hc, World.grownBy.refl _ _, fun k hk => .inl hk, Nat.le_trans hb hB.size⟩
  have hsrc : Src w1 (A.map (·.block)) A2 m c2 bs := ⟨HS.out.rb.below hB (Nat.le_refl _), HS.out.cap, HS.out.le, fun ad had => Nat.lt_of_lt_of_le (HS.out.lt ad had) hB.size, HS.out.sep⟩
  have HC := Lib.hid (hbuf.enc he (fun k hk e => by have := (row_lt HO.out k hk).2; omega) hsrc hn)
  have HB := Lib.hid hB
  clear hbuf hsrc he hB hg
  go_wp2_with fail
  refine HC.out.mono ?_
  rintro e w2 ⟨A3, c3, rfl, hbuf⟩
  have HBUF := Lib.hid hbuf
  clear hbuf
  go_wp2
  go_ret
  exact ⟨w1, HB.out, _, _, _, rfl, HBUF.out⟩
set_option maxRecDepth 100000 in
set_option maxHeartbeats 2000000 in
theorem EncodedBehind_calls (w : World) (Ad Ab : Option Addr) (nd cd mb cb : Nat) (ld lb : List UInt8) (hd : RB w Ad nd ld) (hdn : nd ≤ 1000000) (hb : RB w Ab mb lb) (hbn : mb ≤ 2000) :
    Calls Try.prog 19 #[.slice Ad nd cd, .slice Ab mb cb] w (Made w (ld ++ encRaw alURL lb)) := by
  have HLD := Lib.hid hd.len
  have HLB := Lib.hid hb.len
  have HD := Lib.hid hd
  have HB := Lib.hid hb
  clear hd hb
  go_enter Try.func19, Try.ntmps19
  have HC1 := Lib.hid (Clone_calls w Ad ld nd cd (HD.out) (by omega))
  go_wp2_with fail
  refine HC1.out.mono ?_
  rintro e w1 ⟨v1, rfl, ⟨B1, d1, rfl, hc1, ho1⟩, hB1⟩
  rw [← (HLD).out] at hc1 ho1 ⊢
  have HO1 := Lib.hid ho1
  have HD1 := Lib.hid hc1
  have HBB1 := Lib.hid hB1
  clear ho1 hc1 hB1
  have HC2 := Lib.hid (Clone_calls w1 Ab lb mb cb (HB.out.below HBB1.out (Nat.le_refl _)) (by omega))
  go_wp2_with fail
  refine HC2.out.mono ?_
  rintro e w2 ⟨v2, rfl, ⟨B2, d2, rfl, hc2, ho2⟩, hB2⟩
  rw [← (HLB).out] at hc2 ho2 ⊢
  have HO2 := Lib.hid ho2
  have HD2 := Lib.hid hc2
  have HBB2 := Lib.hid hB2
  clear ho2 hc2 hB2
  have hB02 : Below w.heap.size w w2 := below_then HBB1.out HBB2.out
  have HJ := Lib.hid (AppendEncode1_calls w2 w.heap.size B1 nd d1 ld (own_below HO1.out HBB2.out) HD1.out hdn hB02.size B2 mb d2 lb (Src.of HO2.out HD2.out hbn (Below.refl _ _) (fun k hk => (row_lt HO1.out k hk).2)))
  have HB02 := Lib.hid hB02
  clear hB02
  go_wp2_with fail
  refine HJ.out.mono ?_
  rintro e w4 ⟨w3, hB3, A4, n4', c4, rfl, hbuf⟩
  have HBUF := Lib.hid hbuf
  have HB3 := Lib.hid (below_then HB02.out hB3)
  clear hbuf hB3
  go_wp2
  go_ret
  exact ⟨_, _, _, rfl, HBUF.out.cap, HBUF.out.len, HBUF.out.own, HBUF.out.below HB3.out (fun k hk => (row_lt HO1.out k hk).1)⟩
end Go.Proofs.Ytimicibalhaljaa.B64
