/- Walks of impl.Accepted and claimAwake; the conditions are on sizes alone. -/
import Derived.Test.YtlahgmfpdfblkaaGreatClTok
set_option linter.unusedVariables false
set_option linter.unusedSimpArgs false
namespace Go.Proofs.YtlahgmfpdfblkaaGreat.Cl
open Go.RowKit Go.Proofs.YtlahgmfpdfblkaaGreat.K
/-- The list that a value makes. -/
def listOf (k : Int) (t : ByteArray) (l : List ByteArray) : Option (List ByteArray) := if k = 0 then some [t] else if k = 3 then some l else none
def LPost (w : World) (k : Int) (t : ByteArray) (l : List ByteArray) (e : Ending) (w' : World) : Prop :=
  Below w.heap.size w w' ∧ ((∃ L A n c, listOf k t l = some L ∧ e = .returned (.tuple #[.slice A n c, .bool true]) ∧ SL w' A n L) ∨ (listOf k t l = none ∧ e = .returned (.tuple #[.slice none 0 0, .bool false])))
theorem Get_calls (w : World) (A : Option Addr) (n c : Nat) : Calls Tryz.prog 21 #[.slice A n c] w fun e w' => e = .returned (.slice A n c) ∧ w = w' := by
  go_enter Tryz.func21, Tryz.ntmps21
  go_wp2
  go_ret
  exact ⟨rfl, rfl⟩
theorem IsOther.of {v : Value} (h : v = .nilIface ∨ (∃ b, v = .iface 4 (.bool b)) ∨ ∃ f, v = .iface 65 f) : IsOther v := h
set_option maxRecDepth 100000 in
set_option maxHeartbeats 2000000 in
theorem Accepted_calls (w : World) (k : Int) (t : ByteArray) (b : Bool) (z : Int) (A : Option Addr) (n c : Nat) (l : List ByteArray) (h : SL w A n l) (hn : n ≤ 100000) :
    Calls Tryz.prog 14 #[plainV k t b z A n c] w (LPost w k t l) := by
  unfold plainV
  have hB1 := below_alloc' (Below.refl w.heap.size w) (.cells #[.int .i64 k, .string t, .bool b, .int .i32 z, .slice A n c] 25)
  have hB2 := below_alloc' hB1 (.cells #[.slice none 0 0] 52)
  have hbk := Blk.new (w.alloc (.cells #[.int .i64 k, .string t, .bool b, .int .i32 z, .slice A n c] 25)) 52 #[.slice none 0 0]
  rw [show (w.alloc (.cells #[.int .i64 k, .string t, .bool b, .int .i32 z, .slice A n c] 25)).heap.size = w.heap.size + 1 from by simp] at hbk
  have HV0 := Lib.hid (value_calls _ k t b z A n c l (h.below hB2 (Nat.le_refl _)) hn)
  have HB2 := Lib.hid hB2
  have HBK := Lib.hid hbk
  have HLN := Lib.hid h.len
  clear hB1 hB2 hbk h
  go_enter Tryz.func14, Tryz.ntmps14
  go_wp2_with fail
  refine HV0.out.mono ?_
  rintro e w3 ⟨hB3, hc⟩
  have HB3 := Lib.hid (below_then HB2.out hB3)
  have hb3 := HBK.out.below hB3 HBK.out.lt
  have HLT := Lib.hid HBK.out.lt
  have HB3' := Lib.hid hB3
  clear hB3 HV0 HBK HB2
  rcases hc with ⟨rfl, rfl⟩ | ⟨rfl, a, ca, rfl, hsl, hba, hbb⟩ | ⟨h0, h3, v, rfl, ho⟩
  · have HA := Lib.hid (Accept_text w3 (w.heap.size + 1) t hb3)
    clear hb3
    go_wp2_with fail
    refine HA.out.mono ?_
    rintro e w4 ⟨rfl, hg4, a', c', hb4, hs4, hne⟩
    have hc4 : w4.cell? ⟨w.heap.size + 1, 0, none⟩ = some (.slice (some a') 1 c') := by rw [hb4.cell]; rfl
    have HB4 := Lib.hid (HB3.out.grown hg4 HB3.out.size (by intro j hj; cases hj; omega))
    have HC := Lib.hid (SClone_calls w4 (some a') [t] 1 c' hs4 (by omega))
    clear hg4 hb4 hs4 hne HA
    have HG := Lib.hid (Get_calls w4 (some a') 1 c')
    go_wp2_with fail
    refine HG.out.mono ?_
    rintro e w5 ⟨rfl, rfl⟩
    go_wp2_with fail
    refine HC.out.mono ?_
    rintro e w5 ⟨A5, c5, rfl, hs5, hB5⟩
    have HB5 := Lib.hid (below_then HB4.out hB5)
    have HS5 := Lib.hid hs5
    clear hs5 hB5
    go_wp2
    exact bodyPost_ret (v := .tuple #[.slice A5 1 c5, .bool true]) (by kernel_rfl) rfl ⟨HB5.out, Or.inl ⟨[t], A5, 1, c5, rfl, rfl, HS5.out⟩⟩
  · have hag : a.block ≠ w.heap.size + 1 := by simp at hba; omega
    have HA := Lib.hid (Accept_list w3 (w.heap.size + 1) a n ca l hb3 hsl hag)
    clear hb3 hsl hba hbb hag
    go_wp2_with fail
    refine HA.out.mono ?_
    rintro e w4 ⟨rfl, hg4, a', c', hb4, hs4, hne⟩
    have hc4 : w4.cell? ⟨w.heap.size + 1, 0, none⟩ = some (.slice (some a') n c') := by rw [hb4.cell]; rfl
    have HB4 := Lib.hid (HB3.out.grown hg4 HB3.out.size (by intro j hj; cases hj; omega))
    have HC := Lib.hid (SClone_calls w4 (some a') l n c' hs4 hn)
    clear hg4 hb4 hs4 hne HA
    have HG := Lib.hid (Get_calls w4 (some a') n c')
    go_wp2_with fail
    refine HG.out.mono ?_
    rintro e w5 ⟨rfl, rfl⟩
    go_wp2_with fail
    refine HC.out.mono ?_
    rintro e w5 ⟨A5, c5, rfl, hs5, hB5⟩
    have HB5 := Lib.hid (below_then HB4.out hB5)
    have HS5 := Lib.hid hs5
    clear hs5 hB5
    go_wp2
    exact bodyPost_ret (v := .tuple #[.slice A5 n c5, .bool true]) (by kernel_rfl) rfl ⟨HB5.out, Or.inl ⟨l, A5, n, c5, rfl, rfl, HS5.out⟩⟩
  · have HA := Lib.hid (Accept_other w3 (w.heap.size + 1) v ho)
    have HNO : Hid (listOf k t l = none) := Lib.hid (by rw [listOf, if_neg h0, if_neg h3])
    clear hb3 ho h0 h3
    go_wp2_with fail
    refine HA.out.mono ?_
    rintro e w4 ⟨⟨T, u, rfl⟩, hB4⟩
    have HB4 := Lib.hid (below_then HB3.out hB4)
    clear hB4
    go_wp2
    exact bodyPost_ret (v := .tuple #[.slice none 0 0, .bool false]) (by kernel_rfl) rfl ⟨HB4.out, Or.inr ⟨HNO.out, rfl⟩⟩
theorem lits (w : World) (s : ByteArray) : SL (w.alloc (.cells #[.string s] 9)) (some ⟨w.heap.size, 0, none⟩) 1 [s] := reads_lit w 1 1 [.string s] #[.string s] rfl rfl 9
set_option maxRecDepth 100000 in
set_option maxHeartbeats 1000000 in
theorem claimAwake_calls (w : World) : Calls Tryz.prog 8 #[] w fun e w' => e = .returned (.bool true) ∧ Below w.heap.size w w' := by
  have HA := Lib.hid (Accepted_calls w 0 ⟨#[97]⟩ false 0 none 0 0 [] Reads.none_ (by decide))
  go_enter Tryz.func8, Tryz.ntmps8
  go_wp2_with fail
  refine HA.out.mono ?_
  rintro e w1 ⟨hB1, ⟨L, A1, n1, c1, hL, rfl, hs1⟩ | ⟨hL, _⟩⟩
  · obtain rfl : L = [⟨#[97]⟩] := (Option.some.inj hL).symm
    have HB1 := Lib.hid (below_alloc' hB1 (.cells #[.string ⟨#[97]⟩] 9))
    have hn1 : n1 = 1 := hs1.len
    subst hn1
    have HE := Lib.hid (SEqual_calls _ A1 (some ⟨w1.heap.size, 0, none⟩) [⟨#[97]⟩] [⟨#[97]⟩] 1 c1 1 1 (hs1.below (below_alloc' (Below.refl w1.heap.size w1) (.cells #[.string ⟨#[97]⟩] 9)) (Nat.le_refl _)) (lits w1 ⟨#[97]⟩) (by decide) (by decide) true (by simp))
    clear hL hs1 hB1
    go_wp2_with fail
    refine HE.out.mono ?_
    rintro e w2 ⟨rfl, hB2⟩
    have HB2 := Lib.hid (HB1.out.trans (hB2.mono HB1.out.size))
    clear hB2
    go_wp2
    go_ret
    exact ⟨rfl, HB2.out⟩
  · cases hL
end Go.Proofs.YtlahgmfpdfblkaaGreat.Cl
