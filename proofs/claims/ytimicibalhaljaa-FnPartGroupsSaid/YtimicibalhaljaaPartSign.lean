/- Walks of the reference's PartOf and PartSigning, and of impl.EncodedBehind; the conditions are on sizes alone. -/
import Derived.Test.YtimicibalhaljaaPartImpl
import Derived.Test.YtimicibalhaljaaLawDecode
set_option linter.unusedVariables false
set_option linter.unusedSimpArgs false
namespace Go.Proofs.Ytimicibalhaljaa.B64
open Go.RowKit Go.Proofs.Ytimicibalhaljaa.K Go.Proofs.Ytimicibalhaljaa.Own
theorem Made.of {w : World} {l : List UInt8} {e : Ending} {w' : World} (h : ∃ v, e = .returned v ∧ OwnB w.heap.size w' v l ∧ Below w.heap.size w w') : Made w l e w' := by
  obtain ⟨v, rfl, ⟨A, c, rfl, hc, ho⟩, hB⟩ := h
  exact ⟨A, l.length, c, rfl, hc, rfl, ho, hB⟩
theorem PartOf_calls (w : World) (A : Option Addr) (n c : Nat) (bs : List UInt8) (h : RB w A n bs) (hc : n ≤ c) (hn : n ≤ 100000) :
    Calls Try.prog 14 #[.slice A n c] w (Made w (encRaw alURL bs)) := by
  have H := Lib.hid ((PartEncoded_calls w A n c bs true false h hc hn).mono fun _ _ h => Made.of h)
  rw [show alFor true = alURL from rfl, ← encRaw_eq] at H
  clear h
  go_enter Try.func14, Try.ntmps14
  go_wp2_with fail
  refine H.out.mono ?_
  rintro e w1 ⟨A1, n1, c1, rfl, hc1, hn1, ho1, hB1⟩
  have HO := Lib.hid (And.intro hc1 (And.intro hn1 (And.intro ho1 hB1)))
  clear hc1 hn1 ho1 hB1
  go_wp2
  go_ret
  exact ⟨_, _, _, rfl, HO.out⟩
theorem madeLen {l : List UInt8} {n : Nat} (h : n = l.length) (b : Nat) (hb : l.length ≤ b) : n ≤ b := by omega
theorem enc_2000 {l : List UInt8} {m : Nat} (h : m = l.length) (hm : m ≤ 2000) : (encRaw alURL l).length ≤ 4000 := by rw [encRaw_len, ← h]; exact rawLen_2000 hm
theorem Buf.keep {w : World} {base : Nat} {row : Option Nat} {wi w' : World} {A : Option Addr} {n c : Nat} {l : List UInt8} (h : Buf w base row wi A n c l) (hB : Below wi.heap.size wi w') : Buf w base row w' A n c l :=
  ⟨own_below h.own hB, h.cap, grown_trans h.low (grown_of_below hB (Nat.le_refl _) _), h.blk, h.size_⟩
set_option maxRecDepth 100000 in
set_option maxHeartbeats 2000000 in
theorem PartSigning_false (w : World) (Ah Ap : Option Addr) (mh ch mp cp : Nat) (lh lp : List UInt8) (hh : RB w Ah mh lh) (hch : mh ≤ ch) (hhn : mh ≤ 2000) (hp : RB w Ap mp lp) (hcp : mp ≤ cp) (hpn : mp ≤ 2000) :
    Calls Try.prog 27 #[.slice Ah mh ch, .slice Ap mp cp, .bool false] w (Made w (encRaw alURL lh ++ ([46] ++ lp))) := by
  obtain ⟨i0, hi, hz0, hz1, hz2⟩ := info_parts info_u8
  have HI := Lib.hid (And.intro hi (And.intro hz0 (And.intro hz1 hz2)))
  have H1 := Lib.hid (PartOf_calls w Ah mh ch lh hh hch (by omega))
  have HLH := Lib.hid hh.len
  have HLP := Lib.hid hp.len
  have HP := Lib.hid hp
  clear hh hp hi hz0 hz1 hz2
  go_enter Try.func27, Try.ntmps27
  go_wp2_with fail
  refine H1.out.mono ?_
  rintro e w1 ⟨A1, n1, c1, rfl, hc1, hn1, ho1, hB1⟩
  have hb1 : n1 ≤ 4000 := madeLen hn1 4000 (enc_2000 HLH.out hhn)
  have HBUF1 : Hid (Buf w1 w.heap.size (A1.map (·.block)) w1 A1 n1 c1 (encRaw alURL lh)) := Lib.hid ⟨ho1, hc1, World.grownBy.refl _ _, fun k hk => .inl hk, hB1.size⟩
  have HROW : Hid (∀ k, A1.map (·.block) = some k → w.heap.size ≤ k) := Lib.hid (fun k hk => (row_lt ho1 k hk).1)
  have HB1 := Lib.hid hB1
  clear ho1 hB1 hn1
  go_wp2_with (first
    | (at_builtin; refine wpList_append_any _ rfl (.tmp 9) (.tmp 10) 22 rfl w.heap.size 5 i0 (.int .u8 0) 1 1 Try.underlying22 HI.out.1 HI.out.2.1 HI.out.2.2.1 HI.out.2.2.2 rfl (by decide) _ n1 _ rfl (World.ownsRow.alloc HBUF1.out.own _) (some ⟨w1.heap.size, 0, none⟩) 1 1 (bys [46]) rfl (rb_lit w1 [46] 1 _ rfl rfl _) (bys_one _) (by unfold maxLen; omega) (by omega) (by have h1 := HBUF1.out.low.size; have h2 := HBUF1.out.size_; simp; omega) ?_; intro v3 w2 hown3 hg3 hat3; obtain ⟨A2, c2, rfl, hb3⟩ := HBUF1.out.more (grown_trans HBUF1.out.low (World.grownBy_alloc w1 _ _)) hown3 hg3 hat3; obtain ⟨n2, hn2⟩ : ∃ N, N = n1 + 1 := ⟨_, rfl⟩; have hnb2 : n2 ≤ 5000 := (by omega); rw [← hn2] at hb3 ⊢; have HBUF2 := Lib.hid hb3; clear hown3 hg3 hat3 hb3 hn2)
    | (at_builtin; refine wpList_append_any _ rfl (.tmp 17) (.tmp 18) 22 rfl w.heap.size 5 i0 (.int .u8 0) 1 1 Try.underlying22 HI.out.1 HI.out.2.1 HI.out.2.2.1 HI.out.2.2.2 rfl (by decide) _ n2 _ rfl HBUF2.out.own Ap mp cp (bys lp) rfl (HP.out.below (HBUF2.out.below HB1.out HROW.out) (Nat.le_refl _)) (bys_one _) (by unfold maxLen; omega) (by omega) (by have h1 := HBUF2.out.low.size; have h2 := HBUF2.out.size_; simp; omega) ?_; intro v3 w3 hown3 hg3 hat3; obtain ⟨A3, c3, rfl, hb3⟩ := HBUF2.out.more HBUF2.out.low hown3 hg3 hat3; obtain ⟨n3, hn3⟩ : ∃ N, N = n2 + mp := ⟨_, rfl⟩; have hnb3 : n3 ≤ 7000 := (by omega); rw [← hn3] at hb3 ⊢; have HBUF3 := Lib.hid hb3; clear hown3 hg3 hat3 hb3 hn3))
  go_wp2
  go_ret
  exact ⟨_, _, _, rfl, HBUF3.out.cap, by have h := HBUF3.out.len; rw [h]; simp [List.append_assoc], by have h := HBUF3.out.own; simpa [List.append_assoc] using h, HBUF3.out.below HB1.out HROW.out⟩
set_option maxRecDepth 100000 in
set_option maxHeartbeats 2000000 in
theorem PartSigning_true (w : World) (Ah Ap : Option Addr) (mh ch mp cp : Nat) (lh lp : List UInt8) (hh : RB w Ah mh lh) (hch : mh ≤ ch) (hhn : mh ≤ 2000) (hp : RB w Ap mp lp) (hcp : mp ≤ cp) (hpn : mp ≤ 2000) :
    Calls Try.prog 27 #[.slice Ah mh ch, .slice Ap mp cp, .bool true] w (Made w (encRaw alURL lh ++ ([46] ++ encRaw alURL lp))) := by
  obtain ⟨i0, hi, hz0, hz1, hz2⟩ := info_parts info_u8
  have HI := Lib.hid (And.intro hi (And.intro hz0 (And.intro hz1 hz2)))
  have H1 := Lib.hid (PartOf_calls w Ah mh ch lh hh hch (by omega))
  have HLH := Lib.hid hh.len
  have HLP := Lib.hid hp.len
  have HP := Lib.hid hp
  clear hh hp hi hz0 hz1 hz2
  go_enter Try.func27, Try.ntmps27
  go_wp2_with fail
  refine H1.out.mono ?_
  rintro e w1 ⟨A1, n1, c1, rfl, hc1, hn1, ho1, hB1⟩
  have hb1 : n1 ≤ 4000 := madeLen hn1 4000 (enc_2000 HLH.out hhn)
  have HBUF1 : Hid (Buf w1 w.heap.size (A1.map (·.block)) w1 A1 n1 c1 (encRaw alURL lh)) := Lib.hid ⟨ho1, hc1, World.grownBy.refl _ _, fun k hk => .inl hk, hB1.size⟩
  have HROW : Hid (∀ k, A1.map (·.block) = some k → w.heap.size ≤ k) := Lib.hid (fun k hk => (row_lt ho1 k hk).1)
  have HB1 := Lib.hid hB1
  clear ho1 hB1 hn1
  go_wp2_with (at_builtin; refine wpList_append_any _ rfl (.tmp 9) (.tmp 10) 22 rfl w.heap.size 5 i0 (.int .u8 0) 1 1 Try.underlying22 HI.out.1 HI.out.2.1 HI.out.2.2.1 HI.out.2.2.2 rfl (by decide) _ n1 _ rfl (World.ownsRow.alloc HBUF1.out.own _) (some ⟨w1.heap.size, 0, none⟩) 1 1 (bys [46]) rfl (rb_lit w1 [46] 1 _ rfl rfl _) (bys_one _) (by unfold maxLen; omega) (by omega) (by have h1 := HBUF1.out.low.size; have h2 := HBUF1.out.size_; simp; omega) ?_; intro v3 w2 hown3 hg3 hat3; obtain ⟨A2, c2, rfl, hb3⟩ := HBUF1.out.more (grown_trans HBUF1.out.low (World.grownBy_alloc w1 _ _)) hown3 hg3 hat3; obtain ⟨n2, hn2⟩ : ∃ N, N = n1 + 1 := ⟨_, rfl⟩; have hnb2 : n2 ≤ 5000 := (by omega); rw [← hn2] at hb3 ⊢; have HBUF2 := Lib.hid hb3; clear hown3 hg3 hat3 hb3 hn2)
  have H2 := Lib.hid (PartOf_calls w2 Ap mp cp lp (HP.out.below (HBUF2.out.below HB1.out HROW.out) (Nat.le_refl _)) hcp (by omega))
  refine H2.out.mono ?_
  rintro e w3 ⟨A5, n5, c5, rfl, hc5, hn5, ho5, hB5⟩
  have hb5 : n5 ≤ 4000 := madeLen hn5 4000 (enc_2000 HLP.out hpn)
  have HR5 : Hid (RB w3 A5 n5 (encRaw alURL lp)) := Lib.hid (Reads.of_own ho5)
  have HBUF3 := Lib.hid (HBUF2.out.keep hB5)
  clear ho5 hB5 hn5
  go_wp2_with (at_builtin; refine wpList_append_any _ rfl (.tmp 13) (.tmp 15) 22 rfl w.heap.size 5 i0 (.int .u8 0) 1 1 Try.underlying22 HI.out.1 HI.out.2.1 HI.out.2.2.1 HI.out.2.2.2 rfl (by decide) _ n2 _ rfl HBUF3.out.own A5 n5 c5 (bys (encRaw alURL lp)) rfl (HR5.out) (bys_one _) (by unfold maxLen; omega) (by omega) (by have h1 := HBUF3.out.low.size; have h2 := HBUF3.out.size_; simp; omega) ?_; intro v3 w4 hown3 hg3 hat3; obtain ⟨A4, c4, rfl, hb3⟩ := HBUF3.out.more HBUF3.out.low hown3 hg3 hat3; obtain ⟨n4, hn4⟩ : ∃ N, N = n2 + n5 := ⟨_, rfl⟩; have hnb4 : n4 ≤ 9000 := (by omega); rw [← hn4] at hb3 ⊢; have HBUF4 := Lib.hid hb3; clear hown3 hg3 hat3 hb3 hn4)
  go_wp2
  go_ret
  exact ⟨_, _, _, rfl, HBUF4.out.cap, by have h := HBUF4.out.len; rw [h]; simp [List.append_assoc], by have h := HBUF4.out.own; simpa [List.append_assoc] using h, HBUF4.out.below HB1.out HROW.out⟩
theorem PartSigning_any (en : Bool) (w : World) (Ah Ap : Option Addr) (mh ch mp cp : Nat) (lh lp : List UInt8) (hh : RB w Ah mh lh) (hch : mh ≤ ch) (hhn : mh ≤ 2000) (hp : RB w Ap mp lp) (hcp : mp ≤ cp) (hpn : mp ≤ 2000) :
    Calls Try.prog 27 #[.slice Ah mh ch, .slice Ap mp cp, .bool en] w (Made w (signL en lh lp)) := by
  cases en
  · exact PartSigning_false w Ah Ap mh ch mp cp lh lp hh hch hhn hp hcp hpn
  · exact PartSigning_true w Ah Ap mh ch mp cp lh lp hh hch hhn hp hcp hpn
end Go.Proofs.Ytimicibalhaljaa.B64
