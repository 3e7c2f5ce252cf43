/- Walks of impl.Wrapped and impl.Unwrapped; the conditions are on the length alone. -/
import Derived.Test.YteecamdcfkielaaDoorUnwrap
set_option linter.unusedVariables false
set_option linter.unusedSimpArgs false
namespace Go.Proofs.YteecamdcfkielaaDoor.Wr
open Go.RowKit Go.Proofs.YteecamdcfkielaaDoor.K Go.Proofs.YteecamdcfkielaaDoor.Own
set_option maxRecDepth 100000 in
set_option maxHeartbeats 4000000 in
theorem Wrap_bad (w : World) (x : Value) (m : Nat) (A : Option Addr) (c : Nat) (h : m < 8 ∨ m % 8 ≠ 0) :
    Calls Tryd.prog 13 #[x, .slice A m c] w fun e w' => (∃ q, e = .returned (.tuple #[.slice none 0 0, .iface 65 (.pointer q)])) ∧ Below w.heap.size w w' := by
  by_cases h8 : m < 8
  · have h8i : (m : Int) < 8 := by omega
    go_enter Tryd.func13, Tryd.ntmps13
    go_wp2_with (go_at_call 20; refine (New_calls _ _).mono ?_; rintro e w7 ⟨q, rfl, hB7⟩; have HB7 := Lib.hid hB7; clear hB7)
    exact bodyPost_ret (v := .tuple #[.slice none 0 0, .iface 65 (.pointer q)]) (by kernel_rfl) rfl ⟨⟨q, rfl⟩, HB7.out⟩
  · have hr8 : ((m : Int) % 8 == 0) = false := by
      rw [beq_eq_false_iff_ne]
      omega
    clear h
    go_enter Tryd.func13, Tryd.ntmps13
    go_wp2_with (go_at_call 20; refine (New_calls _ _).mono ?_; rintro e w7 ⟨q, rfl, hB7⟩; have HB7 := Lib.hid hB7; clear hB7)
    exact bodyPost_ret (v := .tuple #[.slice none 0 0, .iface 65 (.pointer q)]) (by kernel_rfl) rfl ⟨⟨q, rfl⟩, HB7.out⟩
set_option maxRecDepth 100000 in
set_option maxHeartbeats 4000000 in
theorem Unwrap_bad (w : World) (x : Value) (m : Nat) (A : Option Addr) (c : Nat) (h : m < 16 ∨ m % 8 ≠ 0) :
    Calls Tryd.prog 19 #[x, .slice A m c] w fun e w' => (∃ q, e = .returned (.tuple #[.slice none 0 0, .iface 65 (.pointer q)])) ∧ Below w.heap.size w w' := by
  by_cases h8 : m < 16
  · have h8i : (m : Int) < 16 := by omega
    go_enter Tryd.func19, Tryd.ntmps19
    go_wp2_with (go_at_call 20; refine (New_calls _ _).mono ?_; rintro e w7 ⟨q, rfl, hB7⟩; have HB7 := Lib.hid hB7; clear hB7)
    exact bodyPost_ret (v := .tuple #[.slice none 0 0, .iface 65 (.pointer q)]) (by kernel_rfl) rfl ⟨⟨q, rfl⟩, HB7.out⟩
  · have hr8 : ((m : Int) % 8 == 0) = false := by
      rw [beq_eq_false_iff_ne]
      omega
    clear h
    go_enter Tryd.func19, Tryd.ntmps19
    go_wp2_with (go_at_call 20; refine (New_calls _ _).mono ?_; rintro e w7 ⟨q, rfl, hB7⟩; have HB7 := Lib.hid hB7; clear hB7)
    exact bodyPost_ret (v := .tuple #[.slice none 0 0, .iface 65 (.pointer q)]) (by kernel_rfl) rfl ⟨⟨q, rfl⟩, HB7.out⟩
theorem ownB_base {b b' : Nat} {w : World} {v : Value} {l : List UInt8} (h : OwnB b w v l) (hb : b' ≤ b) : OwnB b' w v l := by
  obtain ⟨A, c, rfl, hc, ho⟩ := h
  exact ⟨A, c, rfl, hc, own_base ho hb⟩
theorem neq_nil (W : World) : (binOp .neq 36 .nilIface .nilIface).run Tryd.prog W = .ok (.bool false) W := by kernel_rfl
theorem neq_err (W : World) (q : Option Addr) : (binOp .neq 36 (.iface 65 (.pointer q)) .nilIface).run Tryd.prog W = .ok (.bool true) W := by kernel_rfl
set_option maxHeartbeats 1000000 in
theorem Wrapped_good (w : World) (s m n : Nat) (A : Option Addr) (c : Nat) (bs : List UInt8) (hs : s < 18446744073709551616) (h1 : 1 ≤ n) (h2 : n ≤ 1000) (hm : m = 8 * n) (hrb : RB w A m bs) :
    Calls Tryd.prog 6 #[.int .u64 s, .slice A m c] w fun e w' => ∃ v, e = .returned (.tuple #[v, .bool true]) ∧ OwnB w.heap.size w' v (wrapB (encB s) n bs) ∧ Below w.heap.size w w' := by
  obtain rfl : m = bs.length := hrb.len
  have hq1 := neq_nil
  have hq2 := neq_err
  have hb : bs.length ≤ 140737488355328 := by omega
  have HM := Lib.hid hm
  have HRB := Lib.hid hrb
  clear hm hrb
  go_enter Tryd.func6, Tryd.ntmps6
  go_wp2_with (first
    | (go_at_call 14; refine (Clone_calls w A bs bs.length c HRB.out hb).mono ?_; rintro e w1 ⟨v1, rfl, ⟨A1, c1, rfl, hc1, hown⟩, hB1⟩; have HC1 := Lib.hid hc1; have HO1 := Lib.hid hown; have HB1 := Lib.hid hB1; clear hc1 hown hB1)
    | (go_at_call 13; refine (Wrap_calls w1 s bs.length n A1 c1 bs hs h1 h2 HM.out (Reads.of_own HO1.out) HC1.out).mono ?_; rintro e w2 ⟨v2, rfl, hown2, hB2⟩; have HO2 := Lib.hid hown2; have HB2 := Lib.hid hB2; clear hown2 hB2))
  exact bodyPost_ret (v := .tuple #[v2, .bool true]) (by kernel_rfl) rfl ⟨v2, rfl, ownB_base HO2.out HB1.out.size, below_then HB1.out HB2.out⟩
set_option maxHeartbeats 1000000 in
theorem Wrap_no (w : World) (s m : Nat) (A : Option Addr) (c : Nat) (bs : List UInt8) (hlim : m ≤ 100000) (hm : m < 8 ∨ m % 8 ≠ 0) (hrb : RB w A m bs) :
    Calls Tryd.prog 6 #[.int .u64 s, .slice A m c] w fun e w' => e = .returned (.tuple #[.slice none 0 0, .bool false]) ∧ Below w.heap.size w w' := by
  obtain rfl : m = bs.length := hrb.len
  have hq1 := neq_nil
  have hq2 := neq_err
  have hb : bs.length ≤ 140737488355328 := by omega
  have HM := Lib.hid hm
  have HRB := Lib.hid hrb
  clear hm hrb hlim
  go_enter Tryd.func6, Tryd.ntmps6
  go_wp2_with (first
    | (go_at_call 14; refine (Clone_calls w A bs bs.length c HRB.out hb).mono ?_; rintro e w1 ⟨v1, rfl, ⟨A1, c1, rfl, hc1, hown⟩, hB1⟩; have HB1 := Lib.hid hB1; clear hc1 hown hB1)
    | (go_at_call 13; refine (Wrap_bad w1 _ bs.length A1 c1 HM.out).mono ?_; rintro e w2 ⟨⟨q, rfl⟩, hB2⟩; have HB2 := Lib.hid hB2; clear hB2))
  exact bodyPost_ret (v := .tuple #[.slice none 0 0, .bool false]) (by kernel_rfl) rfl ⟨rfl, below_then HB1.out HB2.out⟩
set_option maxHeartbeats 1000000 in
theorem Unwrap_no (w : World) (s m : Nat) (A : Option Addr) (c : Nat) (bs : List UInt8) (hlim : m ≤ 100000) (hm : m < 16 ∨ m % 8 ≠ 0) (hrb : RB w A m bs) :
    Calls Tryd.prog 11 #[.int .u64 s, .slice A m c] w fun e w' => e = .returned (.tuple #[.slice none 0 0, .bool false]) ∧ Below w.heap.size w w' := by
  obtain rfl : m = bs.length := hrb.len
  have hq1 := neq_nil
  have hq2 := neq_err
  have hb : bs.length ≤ 140737488355328 := by omega
  have HM := Lib.hid hm
  have HRB := Lib.hid hrb
  clear hm hrb hlim
  go_enter Tryd.func11, Tryd.ntmps11
  go_wp2_with (first
    | (go_at_call 14; refine (Clone_calls w A bs bs.length c HRB.out hb).mono ?_; rintro e w1 ⟨v1, rfl, ⟨A1, c1, rfl, hc1, hown⟩, hB1⟩; have HB1 := Lib.hid hB1; clear hc1 hown hB1)
    | (go_at_call 19; refine (Unwrap_bad w1 _ bs.length A1 c1 HM.out).mono ?_; rintro e w2 ⟨⟨q, rfl⟩, hB2⟩; have HB2 := Lib.hid hB2; clear hB2))
  exact bodyPost_ret (v := .tuple #[.slice none 0 0, .bool false]) (by kernel_rfl) rfl ⟨rfl, below_then HB1.out HB2.out⟩
set_option maxHeartbeats 1000000 in
theorem Unwrapped_yes (w : World) (s m n : Nat) (A : Option Addr) (c : Nat) (bs : List UInt8) (hs : s < 18446744073709551616) (h1 : 1 ≤ n) (h2 : n ≤ 1000) (hm : m = 8 * n + 8) (hrb : RB w A m bs) (hiv : (unRun (decB s) n bs).1 = IV) :
    Calls Tryd.prog 11 #[.int .u64 s, .slice A m c] w fun e w' => ∃ v, e = .returned (.tuple #[v, .bool true]) ∧ OwnB w.heap.size w' v (flat (unRun (decB s) n bs).2 n) ∧ Below w.heap.size w w' := by
  have HIV := Lib.hid hiv
  clear hiv
  obtain rfl : m = bs.length := hrb.len
  have hq1 := neq_nil
  have hq2 := neq_err
  have hb : bs.length ≤ 140737488355328 := by omega
  have HM := Lib.hid hm
  have HRB := Lib.hid hrb
  clear hm hrb
  go_enter Tryd.func11, Tryd.ntmps11
  go_wp2_with (first
    | (go_at_call 14; refine (Clone_calls w A bs bs.length c HRB.out hb).mono ?_; rintro e w1 ⟨v1, rfl, ⟨A1, c1, rfl, hc1, hown⟩, hB1⟩; have HC1 := Lib.hid hc1; have HO1 := Lib.hid hown; have HB1 := Lib.hid hB1; clear hc1 hown hB1)
    | (go_at_call 19; refine (Unwrap_calls w1 s bs.length n A1 c1 bs hs h1 h2 HM.out (Reads.of_own HO1.out) HC1.out).mono ?_; rintro e w2 ⟨hB2, ⟨_, v2, rfl, hown2⟩ | ⟨hno, _⟩⟩; rotate_left; exact absurd HIV.out hno; have HO2 := Lib.hid hown2; have HB2 := Lib.hid hB2; clear hown2 hB2))
  exact bodyPost_ret (v := .tuple #[v2, .bool true]) (by kernel_rfl) rfl ⟨v2, rfl, ownB_base HO2.out HB1.out.size, below_then HB1.out HB2.out⟩
set_option maxHeartbeats 1000000 in
theorem Unwrapped_other (w : World) (s m n : Nat) (A : Option Addr) (c : Nat) (bs : List UInt8) (hs : s < 18446744073709551616) (h1 : 1 ≤ n) (h2 : n ≤ 1000) (hm : m = 8 * n + 8) (hrb : RB w A m bs) (hiv : (unRun (decB s) n bs).1 ≠ IV) :
    Calls Tryd.prog 11 #[.int .u64 s, .slice A m c] w fun e w' => e = .returned (.tuple #[.slice none 0 0, .bool false]) ∧ Below w.heap.size w w' := by
  have HIV := Lib.hid hiv
  clear hiv
  obtain rfl : m = bs.length := hrb.len
  have hq1 := neq_nil
  have hq2 := neq_err
  have hb : bs.length ≤ 140737488355328 := by omega
  have HM := Lib.hid hm
  have HRB := Lib.hid hrb
  clear hm hrb
  go_enter Tryd.func11, Tryd.ntmps11
  go_wp2_with (first
    | (go_at_call 14; refine (Clone_calls w A bs bs.length c HRB.out hb).mono ?_; rintro e w1 ⟨v1, rfl, ⟨A1, c1, rfl, hc1, hown⟩, hB1⟩; have HC1 := Lib.hid hc1; have HO1 := Lib.hid hown; have HB1 := Lib.hid hB1; clear hc1 hown hB1)
    | (go_at_call 19; refine (Unwrap_calls w1 s bs.length n A1 c1 bs hs h1 h2 HM.out (Reads.of_own HO1.out) HC1.out).mono ?_; rintro e w2 ⟨hB2, ⟨hyes, _⟩ | ⟨_, q, rfl⟩⟩; exact absurd hyes HIV.out; have HB2 := Lib.hid hB2; clear hB2))
  exact bodyPost_ret (v := .tuple #[.slice none 0 0, .bool false]) (by kernel_rfl) rfl ⟨rfl, below_then HB1.out HB2.out⟩
end Go.Proofs.YteecamdcfkielaaDoor.Wr
