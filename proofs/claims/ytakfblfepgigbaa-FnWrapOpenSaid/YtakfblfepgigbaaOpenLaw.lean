/- The reference's opening in numbers is the opening in bytes; and the walk of the law FnWrapOpen; no condition on the lengths. -/
import Derived.Test.YtakfblfepgigbaaWOpen2
set_option linter.unusedVariables false
set_option linter.unusedSimpArgs false
namespace Go.Proofs.Ytakfblfepgigbaa.Wr
open Go.RowKit Go.Proofs.Ytakfblfepgigbaa.K Go.Proofs.Ytakfblfepgigbaa.Own
theorem byte_xor (a b i : Nat) : byte (a ^^^ b) i = byte a i ^^^ byte b i := by
  apply UInt8.toNat_inj.1
  rw [UInt8.toNat_xor]
  simp only [byte, UInt8.toNat_ofNat']
  rw [Nat.xor_div_two_pow, Nat.xor_mod_two_pow]
theorem bt_b8 (a i : Nat) (h : i < 8) : bt (b8 a) i = byte a i := by
  rw [bt_get _ _ (by rw [b8_length]; exact h)]
  simp [b8]
theorem mixed_b8 (a b : Nat) : mixed (b8 a) (b8 b) 8 = b8 (a ^^^ b) := by
  refine List.ext_getElem (by simp [mixed, b8_length]) (fun i h1 h2 => ?_)
  have hi : i < 8 := by simpa [b8_length] using h2
  rw [← bt_get _ _ h1, ← bt_get _ _ h2, mixed_at _ _ _ _ (by rw [b8_length]; exact hi), if_pos hi, bt_b8 _ _ hi, bt_b8 _ _ hi, bt_b8 _ _ hi, byte_xor]
def Rel (n : Nat) (p : List UInt8 × (Nat → List UInt8)) (q : Nat × (Nat → Nat)) : Prop := p.1 = b8 q.1 ∧ q.1 < 18446744073709551616 ∧ ∀ j, j < n → p.2 j = b8 (q.2 j) ∧ q.2 j < 18446744073709551616
theorem rel_step (s n t : Nat) (h1 : 1 ≤ n) (ht : t + 1 < 18446744073709551616) (p : List UInt8 × (Nat → List UInt8)) (q : Nat × (Nat → Nat)) (h : Rel n p q) : Rel n (decStep (decB s) n t p) (nstep s n t q) := by
  have hi := h.2.2 _ (Nat.mod_lt t h1)
  have hx : q.1 ^^^ (t + 1) < 18446744073709551616 := xor_lt h.2.1 ht
  have e : decB s (mixed p.1 (b8 (t + 1)) 8 ++ p.2 (t % n)) = b8 (dec s (q.1 ^^^ (t + 1), q.2 (t % n))).1 ++ b8 (dec s (q.1 ^^^ (t + 1), q.2 (t % n))).2 := by
    rw [h.1, hi.1, mixed_b8, decB_b8 s _ _ hx hi.2]
  have hd := dec_lt s (q.1 ^^^ (t + 1), q.2 (t % n)) hx hi.2
  unfold decStep nstep
  rw [e, (b8_split _ _).1, (b8_split _ _).2]
  refine ⟨rfl, hd.1, fun j hj => ?_⟩
  dsimp only
  unfold upd updN
  split
  · exact ⟨rfl, hd.2⟩
  · exact h.2.2 j hj
theorem rel_run (s n : Nat) (h1 : 1 ≤ n) : ∀ (t : Nat), t < 18446744073709551616 → ∀ (p : List UInt8 × (Nat → List UInt8)) (q : Nat × (Nat → Nat)), Rel n p q → Rel n (decRun (decB s) n t p) (nrun s n t q)
  | 0, _, _, _, h => h
  | t + 1, ht, p, q, h => rel_run s n h1 t (by omega) _ _ (rel_step s n t h1 ht p q h)
theorem rel_open (s n : Nat) (bs : List UInt8) (h1 : 1 ≤ n) (h2 : n ≤ 1000) (hl : bs.length = 8 * n + 8) : Rel n (unRun (decB s) n bs) (openN s n bs) := by
  refine rel_run s n h1 (6 * n) (by omega) _ _ ⟨?_, ?_, fun j hj => ⟨?_, ?_⟩⟩
  · exact (b8_num _ (by rw [List.length_take, hl]; omega)).symm
  · exact num8_lt _ (by rw [List.length_take, hl]; omega)
  · exact (b8_num _ (word_len bs (n + 1) (j + 1) (by omega) (by omega))).symm
  · exact num8_lt _ (word_len bs (n + 1) (j + 1) (by omega) (by omega))
theorem IV_b8 : IV = b8 12008468691120727718 := by decide
theorem open_iv (s n : Nat) (bs : List UInt8) (h1 : 1 ≤ n) (h2 : n ≤ 1000) (hl : bs.length = 8 * n + 8) : (unRun (decB s) n bs).1 = IV ↔ (openN s n bs).1 = 12008468691120727718 := by
  have h := rel_open s n bs h1 h2 hl
  rw [h.1, IV_b8]
  constructor
  · intro e
    have := congrArg num e
    rwa [num_b8 _ h.2.1, num_b8 _ (by decide)] at this
  · intro e
    rw [e]
theorem open_flat (s n : Nat) (bs : List UInt8) (h1 : 1 ≤ n) (h2 : n ≤ 1000) (hl : bs.length = 8 * n + 8) : flat (unRun (decB s) n bs).2 n = cat (openN s n bs).2 n :=
  flat_alike _ _ n (fun j hj => ((rel_open s n bs h1 h2 hl).2.2 j hj).1)
set_option maxRecDepth 100000 in
set_option maxHeartbeats 2000000 in
theorem FnWrapOpen_calls (w : World) (s m : Nat) (A : Option Addr) (c : Nat) (bs : List UInt8) (hs : s < 18446744073709551616) (hrb : RB w A m bs) (hcap : m ≤ c) :
    Calls Try.prog 6 #[.int .u64 s, .slice A m c] w fun e w' => e = .returned (.bool true) ∧ Below w.heap.size w w' := by
  have HRB := Lib.hid hrb
  have HC := Lib.hid hcap
  clear hrb hcap
  by_cases h1 : m > 2147483647
  · go_enter Try.func6, Try.ntmps6
    go_wp2
    go_ret
    exact ⟨rfl, Below.refl _ _⟩
  have h1i : ¬ (2147483647 : Int) < (m : Int) := by omega
  obtain ⟨k, hk⟩ : ∃ k, k = bs.length / 8 * 8 := ⟨_, rfl⟩
  have hw1 := wrapWhole_calls w m A c bs HRB.out HC.out (by omega)
  rw [← hk] at hw1
  have hwl : (whole bs).length = k := by rw [whole_len, hk]
  have hf1 : fine bs = (decide (16 ≤ k) && decide (k ≤ 400)) := by rw [fine, hk]
  cases hfb : fine bs with
  | false =>
    rw [hfb] at hw1
    clear hfb hf1 hk
    have HW1 := Lib.hid hw1
    clear hw1 hwl
    go_enter Try.func6, Try.ntmps6
    go_wp2_with (first
      | (go_at_call 16; refine HW1.out.mono ?_; rintro e w1 ⟨B1, d1, rfl, hc1, hr1, hB1⟩; have HB1 := Lib.hid hB1; clear hr1 hB1 hc1)
      | (go_at_call 17; refine (wrapAwake_calls w1).mono ?_; rintro e w9 ⟨rfl, hB9⟩; have HB9 := Lib.hid (below_then HB1.out hB9); clear hB9))
    go_ret
    exact ⟨rfl, HB9.out⟩
  | true =>
    rw [hfb] at hw1
    rw [hfb] at hf1
    simp only [Bool.true_eq, Bool.and_eq_true, decide_eq_true_eq] at hf1
    refine Decidable.byCases (p := k < 24) (fun h24 => ?_) (fun h24 => ?_)
    have h24i : (k : Int) < 24 := by omega
    clear hfb hf1 hk
    have HW1 := Lib.hid hw1
    clear hw1 hwl
    go_enter Try.func6, Try.ntmps6
    go_wp2_with (first
      | (go_at_call 16; refine HW1.out.mono ?_; rintro e w1 ⟨B1, d1, rfl, hc1, hr1, hB1⟩; have HB1 := Lib.hid hB1; clear hr1 hB1 hc1)
      | (go_at_call 17; refine (wrapAwake_calls w1).mono ?_; rintro e w9 ⟨rfl, hB9⟩; have HB9 := Lib.hid (below_then HB1.out hB9); clear hB9))
    go_ret
    exact ⟨rfl, HB9.out⟩
    obtain ⟨n, hn⟩ : ∃ n, k = 8 * n + 8 := ⟨k / 8 - 1, by omega⟩
    have h24i : ¬ (k : Int) < 24 := by omega
    have hn1 : 1 ≤ n := by omega
    have HN1 := Lib.hid hn1
    have HN2 : Hid (n ≤ 1000) := Lib.hid (by omega)
    have HN8 : Hid (n ≤ 800) := Lib.hid (by omega)
    have HBK : Hid (k ≤ 140737488355328) := Lib.hid (by omega)
    have hiv := open_iv s n (whole bs) hn1 HN2.out (by rw [hwl, hn])
    have hfl := open_flat s n (whole bs) hn1 HN2.out (by rw [hwl, hn])
    have HFL := Lib.hid hfl
    have HN := Lib.hid hn
    have HWL := Lib.hid hwl
    have HW1 := Lib.hid hw1
    clear hfb hf1 hk hw1 hwl hn hfl hn1 h24
    by_cases hin : (openN s n (whole bs)).1 = 12008468691120727718
    · have HYES := Lib.hid (hiv.2 hin)
      have HDEC : Hid (decide ((openN s n (whole bs)).1 = 12008468691120727718) = true) := Lib.hid (decide_eq_true hin)
      clear hiv hin
      go_enter Try.func6, Try.ntmps6
      go_wp2_with (first
        | (go_at_call 16; refine HW1.out.mono ?_; rintro e w1 ⟨B1, d1, rfl, hc1, hr1, hB1⟩; have HR1 := Lib.hid hr1; have HB1 := Lib.hid hB1; have HC1 := Lib.hid hc1; clear hr1 hB1 hc1)
        | (go_at_call 15; refine (partOwn_calls w1 B1 (whole bs) k d1 HR1.out HBK.out).mono ?_; rintro e w2 ⟨v2, rfl, ho2, hB2⟩; obtain ⟨E2, e2, rfl, hc2, hr2⟩ := opn ho2 HWL.out; have HR2 := Lib.hid hr2; have HB2 := Lib.hid (below_then HB1.out hB2); have XK2 := Lib.hid (HR1.out.below hB2 (Nat.le_refl _)); clear ho2 hr2 hB2 hc2)
        | (go_at_call 19; refine (Unwrapped_yes w2 s k n E2 e2 (whole bs) hs HN1.out HN2.out HN.out HR2.out HYES.out).mono ?_; rintro e w3 ⟨v3, rfl, ho3, hB3⟩; rw [HFL.out] at ho3; obtain ⟨E3, e3, rfl, hc3, hr3⟩ := opn ho3 (cat_len _ n); have HR3 := Lib.hid hr3; have HB3 := Lib.hid (below_then HB2.out hB3); have XK3 := Lib.hid (XK2.out.below hB3 (Nat.le_refl _)); clear ho3 hr3 hB3 hc3)
        | (go_at_call 20; have hwo := WrapOpen_calls w3 s k n B1 d1 (whole bs) hs HN1.out HN8.out HN.out XK3.out HC1.out; rw [HDEC.out] at hwo; refine hwo.mono ?_; clear hwo; rintro e w4 ⟨E4, e4, rfl, hr4, hB4⟩; have HR4 := Lib.hid hr4; have HB4 := Lib.hid (below_then HB3.out hB4); have HR3b := Lib.hid (HR3.out.below hB4 (Nat.le_refl _)); clear hr4 hB4)
        | (go_at_call 13; have hps := PartSame_calls w4 E3 E4 _ _ (8 * n) e3 (8 * n) e4 HR3b.out HR4.out; rw [beq_self_eq_true] at hps; refine hps.mono ?_; clear hps; rintro e w5 ⟨rfl, hw5⟩; have HB5 : Hid (Below w.heap.size w w5) := hw5 ▸ HB4; clear hw5)
        | (go_at_call 17; refine (wrapAwake_calls w5).mono ?_; rintro e w9 ⟨rfl, hB9⟩; have HB9 := Lib.hid (below_then HB5.out hB9); clear hB9))
      go_ret
      exact ⟨rfl, HB9.out⟩
    · have HNO : Hid ((unRun (decB s) n (whole bs)).1 ≠ IV) := Lib.hid (fun h => hin (hiv.1 h))
      have HDEC : Hid (decide ((openN s n (whole bs)).1 = 12008468691120727718) = false) := Lib.hid (decide_eq_false hin)
      clear hiv hin
      go_enter Try.func6, Try.ntmps6
      go_wp2_with (first
        | (go_at_call 16; refine HW1.out.mono ?_; rintro e w1 ⟨B1, d1, rfl, hc1, hr1, hB1⟩; have HR1 := Lib.hid hr1; have HB1 := Lib.hid hB1; have HC1 := Lib.hid hc1; clear hr1 hB1 hc1)
        | (go_at_call 15; refine (partOwn_calls w1 B1 (whole bs) k d1 HR1.out HBK.out).mono ?_; rintro e w2 ⟨v2, rfl, ho2, hB2⟩; obtain ⟨E2, e2, rfl, hc2, hr2⟩ := opn ho2 HWL.out; have HR2 := Lib.hid hr2; have HB2 := Lib.hid (below_then HB1.out hB2); have XK2 := Lib.hid (HR1.out.below hB2 (Nat.le_refl _)); clear ho2 hr2 hB2 hc2)
        | (go_at_call 19; refine (Unwrapped_other w2 s k n E2 e2 (whole bs) hs HN1.out HN2.out HN.out HR2.out HNO.out).mono ?_; rintro e w3 ⟨rfl, hB3⟩; have HB3 := Lib.hid (below_then HB2.out hB3); have XK3 := Lib.hid (XK2.out.below hB3 (Nat.le_refl _)); clear hB3)
        | (go_at_call 20; have hwo := WrapOpen_calls w3 s k n B1 d1 (whole bs) hs HN1.out HN8.out HN.out XK3.out HC1.out; rw [HDEC.out] at hwo; refine hwo.mono ?_; clear hwo; rintro e w4 ⟨E4, e4, rfl, hr4, hB4⟩; have HB4 := Lib.hid (below_then HB3.out hB4); clear hr4 hB4)
        | (go_at_call 17; refine (wrapAwake_calls w4).mono ?_; rintro e w9 ⟨rfl, hB9⟩; have HB9 := Lib.hid (below_then HB4.out hB9); clear hB9))
      go_ret
      exact ⟨rfl, HB9.out⟩
end Go.Proofs.Ytakfblfepgigbaa.Wr
