/- Walks of assemble32, assemble64 and the big-endian puts; the conditions are on the numbers alone. -/
import Derived.Test.YteecamdcfkielaaDoorB64DecQ
set_option linter.unusedVariables false
set_option linter.unusedSimpArgs false
namespace Go.Proofs.YteecamdcfkielaaDoor.B64
open Go.RowKit Go.Proofs.YteecamdcfkielaaDoor.K Go.Proofs.YteecamdcfkielaaDoor.Own
/-- A letter's number, or none. -/
def Num6 (x : Nat) : Prop := x < 64 ∨ x = 255
theorem Num6.lt {x : Nat} (h : Num6 x) : x < 256 := by rcases h with h | h <;> omega
theorem or_64 {a b : Nat} (ha : a < 64) (hb : b < 64) : a ||| b < 64 := Nat.or_lt_two_pow (n := 6) ha hb
theorem or_255 {a : Nat} (ha : a < 256) : a ||| 255 = 255 := by
  have h1 : 255 ≤ a ||| 255 := Nat.right_le_or
  have h2 : a ||| 255 < 256 := Nat.or_lt_two_pow (n := 8) ha (by decide)
  omega
/-- The join of two is a number just if both are. -/
theorem Num6.or {a b : Nat} (ha : Num6 a) (hb : Num6 b) : Num6 (a ||| b) ∧ ((a ||| b < 64) ↔ (a < 64 ∧ b < 64)) := by
  rcases ha with ha | rfl
  · rcases hb with hb | rfl
    · exact ⟨.inl (or_64 ha hb), ⟨fun _ => ⟨ha, hb⟩, fun _ => or_64 ha hb⟩⟩
    · rw [or_255 (by omega)]
      exact ⟨.inr rfl, ⟨fun h => by omega, fun h => by omega⟩⟩
  · rw [Nat.or_comm, or_255 hb.lt]
    exact ⟨.inr rfl, ⟨fun h => by omega, fun h => by omega⟩⟩
theorem u8_num {a b : Nat} (ha : Num6 a) (hb : Num6 b) : bits .or .u8 (a : Int) (b : Int) = ((a ||| b : Nat) : Int) := u8_or_nat _ _ ha.lt hb.lt
/-- All of 4 are numbers. -/
theorem num4 {x0 x1 x2 x3 : Nat} (h0 : Num6 x0) (h1 : Num6 x1) (h2 : Num6 x2) (h3 : Num6 x3) : Num6 (x0 ||| x1 ||| x2 ||| x3) ∧ ((x0 ||| x1 ||| x2 ||| x3 < 64) ↔ (x0 < 64 ∧ x1 < 64 ∧ x2 < 64 ∧ x3 < 64)) := by
  have a1 := Num6.or h0 h1
  have a2 := Num6.or a1.1 h2
  have a3 := Num6.or a2.1 h3
  refine ⟨a3.1, ?_⟩
  rw [a3.2, a2.2, a1.2]
  constructor
  · intro h; omega
  · intro h; omega
theorem chain4 {x0 x1 x2 x3 : Nat} (h0 : Num6 x0) (h1 : Num6 x1) (h2 : Num6 x2) (h3 : Num6 x3) : bits .or .u8 (bits .or .u8 (bits .or .u8 ((x0 : Int)) (x1 : Int)) (x2 : Int)) (x3 : Int) = ((x0 ||| x1 ||| x2 ||| x3 : Nat) : Int) := by
  have a1 := Num6.or h0 h1
  have a2 := Num6.or a1.1 h2
  rw [u8_num h0 h1, u8_num a1.1 h2, u8_num a2.1 h3]
theorem join4 {x0 x1 x2 x3 : Nat} (h0 : x0 < 64) (h1 : x1 < 64) (h2 : x2 < 64) (h3 : x3 < 64) : bits .or .u32 (bits .or .u32 (bits .or .u32 ((x0 : Int) * 67108864) ((x1 : Int) * 1048576)) ((x2 : Int) * 16384)) ((x3 : Int) * 256) = (((n4 x0 x1 x2 x3) * 256 : Nat) : Int) := by
  rw [show (x0 : Int) * 67108864 = ((x0 * 67108864 : Nat) : Int) by rw [Int.natCast_mul]; rfl, show (x1 : Int) * 1048576 = ((x1 * 1048576 : Nat) : Int) by rw [Int.natCast_mul]; rfl, show (x2 : Int) * 16384 = ((x2 * 16384 : Nat) : Int) by rw [Int.natCast_mul]; rfl, show (x3 : Int) * 256 = ((x3 * 256 : Nat) : Int) by rw [Int.natCast_mul]; rfl]
  rw [u32_or_nat _ _ (by omega) (by omega), nat_join 26 _ _ (by omega) (by omega), u32_or_nat _ _ (by omega) (by omega), nat_join 20 _ _ (by omega) (by omega), u32_or_nat _ _ (by omega) (by omega), nat_join 14 _ _ (by omega) (by omega)]
  exact congrArg (fun z : Nat => (z : Int)) (by unfold n4; omega)
def Asm4Post (x0 x1 x2 x3 : Nat) (w : World) (e : Ending) (w' : World) : Prop := w = w' ∧ (((x0 < 64 ∧ x1 < 64 ∧ x2 < 64 ∧ x3 < 64) ∧ e = .returned (.tuple #[.int .u32 (((n4 x0 x1 x2 x3) * 256 : Nat) : Int), .bool true])) ∨ (¬ (x0 < 64 ∧ x1 < 64 ∧ x2 < 64 ∧ x3 < 64) ∧ e = .returned (.tuple #[.int .u32 0, .bool false])))
set_option maxHeartbeats 2000000 in
theorem assemble32_calls (w : World) (x0 x1 x2 x3 : Nat) (h0 : Num6 x0) (h1 : Num6 x1) (h2 : Num6 x2) (h3 : Num6 x3) : Calls Tryd.prog 69 #[.int .u8 (x0 : Nat), .int .u8 (x1 : Nat), .int .u8 (x2 : Nat), .int .u8 (x3 : Nat)] w (Asm4Post x0 x1 x2 x3 w) := by
  have hn := num4 h0 h1 h2 h3
  have hc := chain4 h0 h1 h2 h3
  obtain ⟨O, hO⟩ : ∃ O, O = x0 ||| x1 ||| x2 ||| x3 := ⟨_, rfl⟩
  rw [← hO] at hn hc
  clear hO
  by_cases hall : x0 < 64 ∧ x1 < 64 ∧ x2 < 64 ∧ x3 < 64
  · obtain ⟨l0, l1, l2, l3⟩ := hall
    have hO64 : O < 64 := hn.2.2 ⟨l0, l1, l2, l3⟩
    have hOb : ((O : Int) == 255) = false := by rw [beq_eq_false_iff_ne]; omega
    have HJ := join4 l0 l1 l2 l3
    have HL := Lib.hid (And.intro l0 (And.intro l1 (And.intro l2 l3)))
    obtain ⟨V, hV⟩ : ∃ V, V = (n4 x0 x1 x2 x3) * 256 := ⟨_, rfl⟩
    rw [← hV] at HJ
    have HV := Lib.hid hV
    have hVl : V < 4294967296 := by rw [hV]; unfold n4; omega
    clear hn hO64 hV
    go_enter Tryd.func69, Tryd.ntmps69
    go_wp2
    go_ret2
    exact ⟨rfl, .inl ⟨⟨l0, l1, l2, l3⟩, congrArg (fun z : Nat => Ending.returned (.tuple #[.int .u32 (z : Int), .bool true])) HV.out⟩⟩
  · have hO255 : O = 255 := by
      rcases hn.1 with h | h
      · exact absurd (hn.2.1 h) hall
      · exact h
    subst hO255
    have HALL := Lib.hid hall
    clear hn hall
    go_enter Tryd.func69, Tryd.ntmps69
    go_wp2
    go_ret2
    exact ⟨rfl, .inr ⟨HALL.out, rfl⟩⟩
/-- All of 8 are numbers. -/
theorem num8 {x0 x1 x2 x3 x4 x5 x6 x7 : Nat} (h0 : Num6 x0) (h1 : Num6 x1) (h2 : Num6 x2) (h3 : Num6 x3) (h4 : Num6 x4) (h5 : Num6 x5) (h6 : Num6 x6) (h7 : Num6 x7) : Num6 (x0 ||| x1 ||| x2 ||| x3 ||| x4 ||| x5 ||| x6 ||| x7) ∧ ((x0 ||| x1 ||| x2 ||| x3 ||| x4 ||| x5 ||| x6 ||| x7 < 64) ↔ (x0 < 64 ∧ x1 < 64 ∧ x2 < 64 ∧ x3 < 64 ∧ x4 < 64 ∧ x5 < 64 ∧ x6 < 64 ∧ x7 < 64)) := by
  have a1 := Num6.or h0 h1
  have a2 := Num6.or a1.1 h2
  have a3 := Num6.or a2.1 h3
  have a4 := Num6.or a3.1 h4
  have a5 := Num6.or a4.1 h5
  have a6 := Num6.or a5.1 h6
  have a7 := Num6.or a6.1 h7
  refine ⟨a7.1, ?_⟩
  rw [a7.2, a6.2, a5.2, a4.2, a3.2, a2.2, a1.2]
  constructor
  · intro h; omega
  · intro h; omega
theorem chain8 {x0 x1 x2 x3 x4 x5 x6 x7 : Nat} (h0 : Num6 x0) (h1 : Num6 x1) (h2 : Num6 x2) (h3 : Num6 x3) (h4 : Num6 x4) (h5 : Num6 x5) (h6 : Num6 x6) (h7 : Num6 x7) : bits .or .u8 (bits .or .u8 (bits .or .u8 (bits .or .u8 (bits .or .u8 (bits .or .u8 (bits .or .u8 ((x0 : Int)) (x1 : Int)) (x2 : Int)) (x3 : Int)) (x4 : Int)) (x5 : Int)) (x6 : Int)) (x7 : Int) = ((x0 ||| x1 ||| x2 ||| x3 ||| x4 ||| x5 ||| x6 ||| x7 : Nat) : Int) := by
  have a1 := Num6.or h0 h1
  have a2 := Num6.or a1.1 h2
  have a3 := Num6.or a2.1 h3
  have a4 := Num6.or a3.1 h4
  have a5 := Num6.or a4.1 h5
  have a6 := Num6.or a5.1 h6
  rw [u8_num h0 h1, u8_num a1.1 h2, u8_num a2.1 h3, u8_num a3.1 h4, u8_num a4.1 h5, u8_num a5.1 h6, u8_num a6.1 h7]
theorem join8 {x0 x1 x2 x3 x4 x5 x6 x7 : Nat} (h0 : x0 < 64) (h1 : x1 < 64) (h2 : x2 < 64) (h3 : x3 < 64) (h4 : x4 < 64) (h5 : x5 < 64) (h6 : x6 < 64) (h7 : x7 < 64) : bits .or .u64 (bits .or .u64 (bits .or .u64 (bits .or .u64 (bits .or .u64 (bits .or .u64 (bits .or .u64 ((x0 : Int) * 288230376151711744) ((x1 : Int) * 4503599627370496)) ((x2 : Int) * 70368744177664)) ((x3 : Int) * 1099511627776)) ((x4 : Int) * 17179869184)) ((x5 : Int) * 268435456)) ((x6 : Int) * 4194304)) ((x7 : Int) * 65536) = (((n4 x0 x1 x2 x3 * 16777216 + n4 x4 x5 x6 x7) * 65536 : Nat) : Int) := by
  rw [show (x0 : Int) * 288230376151711744 = ((x0 * 288230376151711744 : Nat) : Int) by rw [Int.natCast_mul]; rfl, show (x1 : Int) * 4503599627370496 = ((x1 * 4503599627370496 : Nat) : Int) by rw [Int.natCast_mul]; rfl, show (x2 : Int) * 70368744177664 = ((x2 * 70368744177664 : Nat) : Int) by rw [Int.natCast_mul]; rfl, show (x3 : Int) * 1099511627776 = ((x3 * 1099511627776 : Nat) : Int) by rw [Int.natCast_mul]; rfl, show (x4 : Int) * 17179869184 = ((x4 * 17179869184 : Nat) : Int) by rw [Int.natCast_mul]; rfl, show (x5 : Int) * 268435456 = ((x5 * 268435456 : Nat) : Int) by rw [Int.natCast_mul]; rfl, show (x6 : Int) * 4194304 = ((x6 * 4194304 : Nat) : Int) by rw [Int.natCast_mul]; rfl, show (x7 : Int) * 65536 = ((x7 * 65536 : Nat) : Int) by rw [Int.natCast_mul]; rfl]
  rw [u64_or_nat _ _ (by omega) (by omega), nat_join 58 _ _ (by omega) (by omega), u64_or_nat _ _ (by omega) (by omega), nat_join 52 _ _ (by omega) (by omega), u64_or_nat _ _ (by omega) (by omega), nat_join 46 _ _ (by omega) (by omega), u64_or_nat _ _ (by omega) (by omega), nat_join 40 _ _ (by omega) (by omega), u64_or_nat _ _ (by omega) (by omega), nat_join 34 _ _ (by omega) (by omega), u64_or_nat _ _ (by omega) (by omega), nat_join 28 _ _ (by omega) (by omega), u64_or_nat _ _ (by omega) (by omega), nat_join 22 _ _ (by omega) (by omega)]
  exact congrArg (fun z : Nat => (z : Int)) (by unfold n4; omega)
def Asm8Post (x0 x1 x2 x3 x4 x5 x6 x7 : Nat) (w : World) (e : Ending) (w' : World) : Prop := w = w' ∧ (((x0 < 64 ∧ x1 < 64 ∧ x2 < 64 ∧ x3 < 64 ∧ x4 < 64 ∧ x5 < 64 ∧ x6 < 64 ∧ x7 < 64) ∧ e = .returned (.tuple #[.int .u64 (((n4 x0 x1 x2 x3 * 16777216 + n4 x4 x5 x6 x7) * 65536 : Nat) : Int), .bool true])) ∨ (¬ (x0 < 64 ∧ x1 < 64 ∧ x2 < 64 ∧ x3 < 64 ∧ x4 < 64 ∧ x5 < 64 ∧ x6 < 64 ∧ x7 < 64) ∧ e = .returned (.tuple #[.int .u64 0, .bool false])))
set_option maxHeartbeats 2000000 in
theorem assemble64_calls (w : World) (x0 x1 x2 x3 x4 x5 x6 x7 : Nat) (h0 : Num6 x0) (h1 : Num6 x1) (h2 : Num6 x2) (h3 : Num6 x3) (h4 : Num6 x4) (h5 : Num6 x5) (h6 : Num6 x6) (h7 : Num6 x7) : Calls Tryd.prog 66 #[.int .u8 (x0 : Nat), .int .u8 (x1 : Nat), .int .u8 (x2 : Nat), .int .u8 (x3 : Nat), .int .u8 (x4 : Nat), .int .u8 (x5 : Nat), .int .u8 (x6 : Nat), .int .u8 (x7 : Nat)] w (Asm8Post x0 x1 x2 x3 x4 x5 x6 x7 w) := by
  have hn := num8 h0 h1 h2 h3 h4 h5 h6 h7
  have hc := chain8 h0 h1 h2 h3 h4 h5 h6 h7
  obtain ⟨O, hO⟩ : ∃ O, O = x0 ||| x1 ||| x2 ||| x3 ||| x4 ||| x5 ||| x6 ||| x7 := ⟨_, rfl⟩
  rw [← hO] at hn hc
  clear hO
  by_cases hall : x0 < 64 ∧ x1 < 64 ∧ x2 < 64 ∧ x3 < 64 ∧ x4 < 64 ∧ x5 < 64 ∧ x6 < 64 ∧ x7 < 64
  · obtain ⟨l0, l1, l2, l3, l4, l5, l6, l7⟩ := hall
    have hO64 : O < 64 := hn.2.2 ⟨l0, l1, l2, l3, l4, l5, l6, l7⟩
    have hOb : ((O : Int) == 255) = false := by rw [beq_eq_false_iff_ne]; omega
    have HJ := join8 l0 l1 l2 l3 l4 l5 l6 l7
    have HL := Lib.hid (And.intro l0 (And.intro l1 (And.intro l2 (And.intro l3 (And.intro l4 (And.intro l5 (And.intro l6 l7)))))))
    obtain ⟨V, hV⟩ : ∃ V, V = (n4 x0 x1 x2 x3 * 16777216 + n4 x4 x5 x6 x7) * 65536 := ⟨_, rfl⟩
    rw [← hV] at HJ
    have HV := Lib.hid hV
    have hVl : V < 18446744073709551616 := by rw [hV]; unfold n4; omega
    clear hn hO64 hV
    go_enter Tryd.func66, Tryd.ntmps66
    go_wp2
    go_ret2
    exact ⟨rfl, .inl ⟨⟨l0, l1, l2, l3, l4, l5, l6, l7⟩, congrArg (fun z : Nat => Ending.returned (.tuple #[.int .u64 (z : Int), .bool true])) HV.out⟩⟩
  · have hO255 : O = 255 := by
      rcases hn.1 with h | h
      · exact absurd (hn.2.1 h) hall
      · exact h
    subst hO255
    have HALL := Lib.hid hall
    clear hn hall
    go_enter Tryd.func66, Tryd.ntmps66
    go_wp2
    go_ret2
    exact ⟨rfl, .inr ⟨HALL.out, rfl⟩⟩
end Go.Proofs.YteecamdcfkielaaDoor.B64
