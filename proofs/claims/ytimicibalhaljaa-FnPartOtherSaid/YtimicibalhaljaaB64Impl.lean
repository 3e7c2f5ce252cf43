/- Walks of the encoder's callers: getEncoder, Encode, EncodedBehind; the conditions are on sizes alone. -/
import Derived.Test.YtimicibalhaljaaB64App
import Derived.Deep.RegionWith
set_option linter.unusedVariables false
set_option linter.unusedSimpArgs false
namespace Go.Proofs.Ytimicibalhaljaa.B64
open Go.RowKit Go.Proofs.Ytimicibalhaljaa.K Go.Proofs.Ytimicibalhaljaa.Own
theorem alURL_len : alURL.length = 64 := by rfl
/-- The encoder. -/
def EncAt (w : World) (g : Nat) : Prop := Blk w g 89 (encC alURL (dmap alURL 64) (-1)).toArray
def EncPost (w : World) (e : Ending) (w' : World) : Prop := ∃ g, e = .returned (.iface 79 (.pointer (some ⟨g, 0, none⟩))) ∧ w.heap.size ≤ g ∧ EncAt w' g ∧ Below w.heap.size w w'
theorem getEncoder_calls (w : World) : Calls Try.prog 45 #[] w (EncPost w) := by
  have H := Lib.hid (zzRawURL_calls w)
  go_enter Try.func45, Try.ntmps45
  go_wp2_with (first
    | (go_at_call 48; refine H.out.mono ?_; rintro e w' ⟨g, rfl, hg, hb, hB⟩; have HB := Lib.hid hb; clear hb))
  go_ret
  exact ⟨g, rfl, hg, HB.out, hB⟩
theorem encR_len (al bs : List UInt8) (n : Nat) (h : n = bs.length) : (encRaw al bs).length = rawLen n := by rw [encRaw_len, h]
theorem rawLen_le (n : Nat) (h : n ≤ 100000) : rawLen n ≤ 200000 := by unfold rawLen; omega
set_option maxRecDepth 100000 in
set_option maxHeartbeats 1000000 in
theorem Encode1_calls (w : World) (A : Option Addr) (n c : Nat) (bs : List UInt8) (h : RB w A n bs) (hc : n ≤ c) (hn : n ≤ 100000) :
    Calls Try.prog 33 #[.slice A n c] w fun e w' => ∃ v, e = .returned v ∧ OwnB w.heap.size w' v (encRaw alURL bs) ∧ Below w.heap.size w w' := by
  have HE := Lib.hid (getEncoder_calls w)
  have HRB := Lib.hid h
  obtain ⟨N, hN⟩ : ∃ N, N = rawLen n := ⟨_, rfl⟩
  have hNb : N ≤ 200000 := by rw [hN]; exact rawLen_le n hn
  have HN := Lib.hid hN
  obtain ⟨i0, hi, hz0, hz1, hz2⟩ := info_parts info_u8
  have HI := Lib.hid (And.intro hi (And.intro hz0 (And.intro hz1 hz2)))
  clear h hN hi hz0 hz1 hz2
  go_enter Try.func33, Try.ntmps33
  go_wp2_with (first
    | (go_at_call 45; refine HE.out.mono ?_; rintro e w1 ⟨g, rfl, hg, hb, hB⟩; have HB := Lib.hid hb; have HB1 := Lib.hid hB; clear hb hB; have hm1 : ∀ W : World, (method 222 79 (.pointer (some ⟨g, 0, none⟩)) "EncodedLen").run Try.prog W = .ok (85, .pointer (some ⟨g, 0, none⟩)) W := (fun W => by kernel_rfl); have hm2 : ∀ W : World, (method 222 79 (.pointer (some ⟨g, 0, none⟩)) "Encode").run Try.prog W = .ok (83, .pointer (some ⟨g, 0, none⟩)) W := (fun W => by kernel_rfl))
    | (go_at_call 85; have hL := EncodedLen_calls w1 g n alURL (dmap alURL 64) alURL_len (dmap_len _ _) HB.out (by omega); rw [← HN.out] at hL; refine hL.mono ?_; clear hL; rintro e w2 ⟨rfl, rfl⟩)
    | (at_make; refine wpList_make_blk rfl _ _ 22 rfl 5 i0 (.int .u8 0) Try.underlying22 HI.out.1 HI.out.2.1 HI.out.2.2.1 rfl .i64 .i64 _ _ N rfl rfl rfl rfl (by rw [HI.out.2.2.2]; omega) (by unfold maxLen; omega) ?_; intro w3 hb3 hB3 hs3; have HB3 := Lib.hid hb3; have HBB3 := Lib.hid hB3; clear hb3 hB3 hs3)
    | (go_at_call 83; have hE := Encode_calls w3 g w1.heap.size 0 n N A c N bs alURL (dmap alURL 64) (List.replicate N (.int .u8 0)) alURL_len (dmap_len _ _) ((RB.below HRB.out HB1.out (Nat.le_refl _)).below HBB3.out (Nat.le_refl _)) hc (by
        intro hn0 ad had e
        obtain ⟨ad', h5, h6, _⟩ := HRB.out.2 hn0
        rw [had] at h5
        obtain rfl := Option.some.inj h5
        have := HB1.out.size
        omega) (by have := HB.out.lt; omega) (HB.out.below HBB3.out HB.out.lt) (by simpa using HB3.out) HN.out (by simp) (Nat.le_refl _) hn (some ⟨w1.heap.size, 0, none⟩) (fun _ => rfl); refine hE.mono ?_; clear hE; rintro e w4 ⟨rfl, hb4, hg4⟩; have HB4 := Lib.hid hb4; have HG4 := Lib.hid hg4; clear hb4 hg4))
  go_ret
  have hlen := encR_len alURL bs n HRB.out.len
  rw [← HN.out] at hlen
  have hsp : splice (List.replicate N (Value.int .u8 0)) 0 (bys (encRaw alURL bs)) = bys (encRaw alURL bs) := by
    unfold splice
    rw [List.drop_eq_nil_of_le (by rw [bys_length, hlen, List.length_replicate]; omega)]
    simp
  have hb5 := HB4.out
  rw [hsp] at hb5
  refine ⟨_, rfl, OwnB.mk' hlen.symm (Nat.le_refl _) ?_, ?_⟩
  · have := hb5.own_toList w.heap.size HB1.out.size (by rw [List.size_toArray, bys_length, hlen]) (by unfold maxLen; omega)
    exact this
  · exact HB1.out.trans ((below_of_grown (grown_trans (grown_of_below HBB3.out (Nat.le_refl _) _) HG4.out) (Nat.le_refl _) (Nat.le_refl _)).mono HB1.out.size)
set_option maxRecDepth 100000 in
theorem Encoded_calls (w : World) (A : Option Addr) (n c : Nat) (bs : List UInt8) (h : RB w A n bs) (hc : n ≤ c) (hn : n ≤ 100000) :
    Calls Try.prog 18 #[.slice A n c] w fun e w' => ∃ v, e = .returned v ∧ OwnB w.heap.size w' v (encRaw alURL bs) ∧ Below w.heap.size w w' := by
  have HC := Lib.hid (Clone_calls w A bs n c h (by omega))
  have HLEN := Lib.hid h.len
  clear h
  go_enter Try.func18, Try.ntmps18
  go_wp2_with fail
  refine HC.out.mono ?_
  rintro e w1 ⟨v, rfl, ⟨A1, c1, rfl, hc1, ho1⟩, hB1⟩
  have hr1 : RB w1 A1 bs.length bs := Reads.of_own ho1
  have HE := Lib.hid (Encode1_calls w1 A1 bs.length c1 bs hr1 hc1 (by rw [← HLEN.out]; exact hn))
  have HB1 := Lib.hid hB1
  clear ho1 hr1 hB1
  go_wp2_with fail
  refine HE.out.mono ?_
  rintro e w2 ⟨v2, rfl, ho2, hB2⟩
  have HO := Lib.hid ho2
  have HB2 := Lib.hid hB2
  clear ho2 hB2
  go_wp2
  go_ret
  obtain ⟨A2, c2, hv, hc2, ho2⟩ := HO.out
  exact ⟨v2, rfl, ⟨A2, c2, hv, hc2, own_base ho2 HB1.out.size⟩, HB1.out.trans (HB2.out.mono HB1.out.size)⟩
end Go.Proofs.Ytimicibalhaljaa.B64
