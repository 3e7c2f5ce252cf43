/- The number of set bits by masks and sums (math/bits.OnesCount64), in plain numbers; no condition. -/
import Derived.Test.YtefabkcfeekfiaaK
set_option linter.unusedVariables false
set_option linter.unusedSimpArgs false
namespace Go.Proofs.Ytefabkcfeekfiaa.Pop
open Go.RowKit Go.Proofs.Ytefabkcfeekfiaa.K
/-- The number of set bits among the n lowest. -/
def bitsN : Nat → Nat → Nat
  | 0, _ => 0
  | n + 1, x => x % 2 + bitsN n (x / 2)
theorem bitsN_top (n : Nat) : ∀ x, bitsN (n + 1) x = bitsN n x + x / 2 ^ n % 2 := by
  induction n with
  | zero => intro x; simp [bitsN]
  | succ n ih =>
    intro x
    rw [bitsN, ih (x / 2), bitsN, Nat.div_div_eq_div_mul, ← Nat.pow_succ', Nat.succ_eq_add_one]
    omega
theorem bitsN_byte (n a b : Nat) (ha : a < 256) : bitsN (n + 8) (a + 256 * b) = bitsN 8 a + bitsN n b := by
  simp only [bitsN]
  have h1 : (a + 256 * b) / 2 / 2 / 2 / 2 / 2 / 2 / 2 / 2 = b := by omega
  rw [h1]
  omega
theorem and_split (a b c d : Nat) (ha : a < 256) (hc : c < 256) : (a + 256 * b) &&& (c + 256 * d) = (a &&& c) + 256 * (b &&& d) := by
  have hac : a &&& c < 2 ^ 8 := Nat.and_lt_two_pow _ hc
  apply Nat.eq_of_testBit_eq
  intro i
  have e1 : a + 256 * b = 2 ^ 8 * b + a := by omega
  have e2 : c + 256 * d = 2 ^ 8 * d + c := by omega
  have e3 : (a &&& c) + 256 * (b &&& d) = 2 ^ 8 * (b &&& d) + (a &&& c) := by omega
  rw [Nat.testBit_and, e1, e2, e3, Nat.testBit_two_pow_mul_add _ ha, Nat.testBit_two_pow_mul_add _ hc, Nat.testBit_two_pow_mul_add _ hac]
  split <;> simp
def p1 (a : Nat) : Nat := (a / 2 &&& 85) + (a &&& 85)
def p2 (a : Nat) : Nat := (a / 4 &&& 51) + (a &&& 51)
def p3 (a : Nat) : Nat := (a / 16 + a) &&& 15
def q1 (m x : Nat) : Nat := (x / 2 &&& m) + (x &&& m)
def q2 (m x : Nat) : Nat := (x / 4 &&& m) + (x &&& m)
def q3 (m x : Nat) : Nat := (x / 16 + x) &&& m
theorem q1_byte (m a b : Nat) (ha : a < 256) : q1 (85 + 256 * m) (a + 256 * b) = p1 a + 256 * q1 m b := by
  have h : ∀ a : Fin 256, ∀ e : Fin 2, (a.1 / 2 + 128 * e.1) &&& 85 = a.1 / 2 &&& 85 := by decide +kernel
  have h1 := h ⟨a, ha⟩ ⟨b % 2, Nat.mod_lt _ (by decide)⟩
  simp only at h1
  have e : (a + 256 * b) / 2 = (a / 2 + 128 * (b % 2)) + 256 * (b / 2) := by omega
  unfold q1 p1
  rw [e, and_split _ _ _ _ (by omega) (by decide), and_split _ _ _ _ ha (by decide), h1]
  omega
theorem q2_byte (m a b : Nat) (ha : a < 256) : q2 (51 + 256 * m) (a + 256 * b) = p2 a + 256 * q2 m b := by
  have h : ∀ a : Fin 256, ∀ e : Fin 4, (a.1 / 4 + 64 * e.1) &&& 51 = a.1 / 4 &&& 51 := by decide +kernel
  have h1 := h ⟨a, ha⟩ ⟨b % 4, Nat.mod_lt _ (by decide)⟩
  simp only at h1
  have e : (a + 256 * b) / 4 = (a / 4 + 64 * (b % 4)) + 256 * (b / 4) := by omega
  unfold q2 p2
  rw [e, and_split _ _ _ _ (by omega) (by decide), and_split _ _ _ _ ha (by decide), h1]
  omega
theorem q3_byte (m a b : Nat) (ha : a ≤ 68) (hb : b % 16 ≤ 4) : q3 (15 + 256 * m) (a + 256 * b) = p3 a + 256 * q3 m b := by
  have h : ∀ a : Fin 69, ∀ e : Fin 5, (a.1 / 16 + 16 * e.1 + a.1) &&& 15 = (a.1 / 16 + a.1) &&& 15 := by decide +kernel
  have h1 := h ⟨a, by omega⟩ ⟨b % 16, by omega⟩
  simp only at h1
  have e : (a + 256 * b) / 16 + (a + 256 * b) = (a / 16 + 16 * (b % 16) + a) + 256 * (b / 16 + b) := by omega
  unfold q3 p3
  rw [e, and_split _ _ _ _ (by omega) (by decide), h1]
theorem p_all (a : Nat) (ha : a < 256) : p1 a < 256 ∧ p2 (p1 a) ≤ 68 ∧ p2 (p1 a) % 16 ≤ 4 ∧ p3 (p2 (p1 a)) = bitsN 8 a ∧ bitsN 8 a ≤ 8 := by
  have h : ∀ a : Fin 256, p1 a.1 < 256 ∧ p2 (p1 a.1) ≤ 68 ∧ p2 (p1 a.1) % 16 ≤ 4 ∧ p3 (p2 (p1 a.1)) = bitsN 8 a.1 ∧ bitsN 8 a.1 ≤ 8 := by decide +kernel
  exact h ⟨a, ha⟩
theorem bytes8 (x : Nat) (hx : x < 18446744073709551616) : ∃ d0 d1 d2 d3 d4 d5 d6 d7, d0 < 256 ∧ d1 < 256 ∧ d2 < 256 ∧ d3 < 256 ∧ d4 < 256 ∧ d5 < 256 ∧ d6 < 256 ∧ d7 < 256 ∧ x = (d0 + 256 * (d1 + 256 * (d2 + 256 * (d3 + 256 * (d4 + 256 * (d5 + 256 * (d6 + 256 * (d7 + 256 * 0)))))))) := by
  refine ⟨x % 256, x / 256 % 256, x / 65536 % 256, x / 16777216 % 256, x / 4294967296 % 256, x / 1099511627776 % 256, x / 281474976710656 % 256, x / 72057594037927936 % 256, ?_⟩
  omega
theorem q1_all {d0 d1 d2 d3 d4 d5 d6 d7 : Nat} (h0 : d0 < 256) (h1 : d1 < 256) (h2 : d2 < 256) (h3 : d3 < 256) (h4 : d4 < 256) (h5 : d5 < 256) (h6 : d6 < 256) (h7 : d7 < 256) : q1 6148914691236517205 (d0 + 256 * (d1 + 256 * (d2 + 256 * (d3 + 256 * (d4 + 256 * (d5 + 256 * (d6 + 256 * (d7 + 256 * 0)))))))) = (p1 d0 + 256 * (p1 d1 + 256 * (p1 d2 + 256 * (p1 d3 + 256 * (p1 d4 + 256 * (p1 d5 + 256 * (p1 d6 + 256 * (p1 d7 + 256 * 0)))))))) := by
  rw [show 6148914691236517205 = (85 + 256 * (85 + 256 * (85 + 256 * (85 + 256 * (85 + 256 * (85 + 256 * (85 + 256 * (85 + 256 * 0)))))))) from rfl, q1_byte _ _ _ h0, q1_byte _ _ _ h1, q1_byte _ _ _ h2, q1_byte _ _ _ h3, q1_byte _ _ _ h4, q1_byte _ _ _ h5, q1_byte _ _ _ h6, q1_byte _ _ _ h7]
  rfl
theorem q2_all {d0 d1 d2 d3 d4 d5 d6 d7 : Nat} (h0 : d0 < 256) (h1 : d1 < 256) (h2 : d2 < 256) (h3 : d3 < 256) (h4 : d4 < 256) (h5 : d5 < 256) (h6 : d6 < 256) (h7 : d7 < 256) : q2 3689348814741910323 (d0 + 256 * (d1 + 256 * (d2 + 256 * (d3 + 256 * (d4 + 256 * (d5 + 256 * (d6 + 256 * (d7 + 256 * 0)))))))) = (p2 d0 + 256 * (p2 d1 + 256 * (p2 d2 + 256 * (p2 d3 + 256 * (p2 d4 + 256 * (p2 d5 + 256 * (p2 d6 + 256 * (p2 d7 + 256 * 0)))))))) := by
  rw [show 3689348814741910323 = (51 + 256 * (51 + 256 * (51 + 256 * (51 + 256 * (51 + 256 * (51 + 256 * (51 + 256 * (51 + 256 * 0)))))))) from rfl, q2_byte _ _ _ h0, q2_byte _ _ _ h1, q2_byte _ _ _ h2, q2_byte _ _ _ h3, q2_byte _ _ _ h4, q2_byte _ _ _ h5, q2_byte _ _ _ h6, q2_byte _ _ _ h7]
  rfl
theorem q3_all {d0 d1 d2 d3 d4 d5 d6 d7 : Nat} (h0 : d0 ≤ 68 ∧ d0 % 16 ≤ 4) (h1 : d1 ≤ 68 ∧ d1 % 16 ≤ 4) (h2 : d2 ≤ 68 ∧ d2 % 16 ≤ 4) (h3 : d3 ≤ 68 ∧ d3 % 16 ≤ 4) (h4 : d4 ≤ 68 ∧ d4 % 16 ≤ 4) (h5 : d5 ≤ 68 ∧ d5 % 16 ≤ 4) (h6 : d6 ≤ 68 ∧ d6 % 16 ≤ 4) (h7 : d7 ≤ 68 ∧ d7 % 16 ≤ 4) : q3 1085102592571150095 (d0 + 256 * (d1 + 256 * (d2 + 256 * (d3 + 256 * (d4 + 256 * (d5 + 256 * (d6 + 256 * (d7 + 256 * 0)))))))) = (p3 d0 + 256 * (p3 d1 + 256 * (p3 d2 + 256 * (p3 d3 + 256 * (p3 d4 + 256 * (p3 d5 + 256 * (p3 d6 + 256 * (p3 d7 + 256 * 0)))))))) := by
  rw [show 1085102592571150095 = (15 + 256 * (15 + 256 * (15 + 256 * (15 + 256 * (15 + 256 * (15 + 256 * (15 + 256 * (15 + 256 * 0)))))))) from rfl, q3_byte _ _ _ h0.1 (by omega), q3_byte _ _ _ h1.1 (by omega), q3_byte _ _ _ h2.1 (by omega), q3_byte _ _ _ h3.1 (by omega), q3_byte _ _ _ h4.1 (by omega), q3_byte _ _ _ h5.1 (by omega), q3_byte _ _ _ h6.1 (by omega), q3_byte _ _ _ h7.1 (by omega)]
  rfl
theorem bits_all {d0 d1 d2 d3 d4 d5 d6 d7 : Nat} (h0 : d0 < 256) (h1 : d1 < 256) (h2 : d2 < 256) (h3 : d3 < 256) (h4 : d4 < 256) (h5 : d5 < 256) (h6 : d6 < 256) (h7 : d7 < 256) : bitsN 64 (d0 + 256 * (d1 + 256 * (d2 + 256 * (d3 + 256 * (d4 + 256 * (d5 + 256 * (d6 + 256 * (d7 + 256 * 0)))))))) = bitsN 8 d0 + bitsN 8 d1 + bitsN 8 d2 + bitsN 8 d3 + bitsN 8 d4 + bitsN 8 d5 + bitsN 8 d6 + bitsN 8 d7 := by
  rw [bitsN_byte 56 _ _ h0, bitsN_byte 48 _ _ h1, bitsN_byte 40 _ _ h2, bitsN_byte 32 _ _ h3, bitsN_byte 24 _ _ h4, bitsN_byte 16 _ _ h5, bitsN_byte 8 _ _ h6, bitsN_byte 0 _ _ h7]
  simp only [bitsN]
  omega
theorem sum_all {d0 d1 d2 d3 d4 d5 d6 d7 : Nat} (h0 : d0 ≤ 8) (h1 : d1 ≤ 8) (h2 : d2 ≤ 8) (h3 : d3 ≤ 8) (h4 : d4 ≤ 8) (h5 : d5 ≤ 8) (h6 : d6 ≤ 8) (h7 : d7 ≤ 8) (x : Nat) (hx : x = (d0 + 256 * (d1 + 256 * (d2 + 256 * (d3 + 256 * (d4 + 256 * (d5 + 256 * (d6 + 256 * (d7 + 256 * 0))))))))) (y z u : Nat) (hy : y = (x + x / 256) % 18446744073709551616) (hz : z = (y + y / 65536) % 18446744073709551616) (hu : u = (z + z / 4294967296) % 18446744073709551616) : u % 128 = d0 + d1 + d2 + d3 + d4 + d5 + d6 + d7 := by
  have e0 : x / 256 = (d1 + 256 * (d2 + 256 * (d3 + 256 * (d4 + 256 * (d5 + 256 * (d6 + 256 * (d7 + 256 * 0))))))) := by omega
  have ey : y = ((d0 + d1) + 256 * ((d1 + d2) + 256 * ((d2 + d3) + 256 * ((d3 + d4) + 256 * ((d4 + d5) + 256 * ((d5 + d6) + 256 * ((d6 + d7) + 256 * ((d7 + 0) + 256 * 0)))))))) := by omega
  clear hy e0 hx
  have e1 : y / 65536 = ((d2 + d3) + 256 * ((d3 + d4) + 256 * ((d4 + d5) + 256 * ((d5 + d6) + 256 * ((d6 + d7) + 256 * ((d7 + 0) + 256 * 0)))))) := by omega
  have ez : z = ((d0 + d1 + d2 + d3) + 256 * ((d1 + d2 + d3 + d4) + 256 * ((d2 + d3 + d4 + d5) + 256 * ((d3 + d4 + d5 + d6) + 256 * ((d4 + d5 + d6 + d7) + 256 * ((d5 + d6 + d7 + 0) + 256 * ((d6 + d7 + 0 + 0) + 256 * ((d7 + 0 + 0 + 0) + 256 * 0)))))))) := by omega
  clear hz e1 ey
  have e2 : z / 4294967296 = ((d4 + d5 + d6 + d7) + 256 * ((d5 + d6 + d7 + 0) + 256 * ((d6 + d7 + 0 + 0) + 256 * ((d7 + 0 + 0 + 0) + 256 * 0)))) := by omega
  omega
theorem wrapN_small (n : Nat) (h : n < 18446744073709551616) : IntKind.u64.wrap (n : Int) = (n : Int) := by
  have hw : IntKind.u64.wrap (n : Int) = (n : Int) % 18446744073709551616 := by simp [IntKind.wrap, IntKind.bits, IntKind.signed]
  rw [hw]; omega
theorem wrapN_mod (n : Nat) : IntKind.u64.wrap (n : Int) = ((n % 18446744073709551616 : Nat) : Int) := by
  have hw : IntKind.u64.wrap (n : Int) = (n : Int) % 18446744073709551616 := by simp [IntKind.wrap, IntKind.bits, IntKind.signed]
  rw [hw]; omega
theorem step1 (x : Nat) (hx : x < 18446744073709551616) : IntKind.u64.wrap (bits .and .u64 ((x : Int) / 2) 6148914691236517205 + bits .and .u64 (x : Int) 6148914691236517205) = (q1 6148914691236517205 x : Nat) := by
  have e1 : bits .and .u64 ((x : Int) / 2) 6148914691236517205 = ((x / 2 &&& 6148914691236517205 : Nat) : Int) := by
    rw [← u64_and_nat _ _ (by omega) (by decide)]; rfl
  have e2 : bits .and .u64 (x : Int) 6148914691236517205 = ((x &&& 6148914691236517205 : Nat) : Int) := by
    rw [← u64_and_nat _ _ hx (by decide)]; rfl
  have b1 : x / 2 &&& 6148914691236517205 ≤ 6148914691236517205 := Nat.and_le_right
  have b2 : x &&& 6148914691236517205 ≤ 6148914691236517205 := Nat.and_le_right
  rw [e1, e2, ← Int.natCast_add, wrapN_small _ (by omega)]
  rfl
theorem step2 (x : Nat) (hx : x < 18446744073709551616) : IntKind.u64.wrap (bits .and .u64 ((x : Int) / 4) 3689348814741910323 + bits .and .u64 (x : Int) 3689348814741910323) = (q2 3689348814741910323 x : Nat) := by
  have e1 : bits .and .u64 ((x : Int) / 4) 3689348814741910323 = ((x / 4 &&& 3689348814741910323 : Nat) : Int) := by
    rw [← u64_and_nat _ _ (by omega) (by decide)]; rfl
  have e2 : bits .and .u64 (x : Int) 3689348814741910323 = ((x &&& 3689348814741910323 : Nat) : Int) := by
    rw [← u64_and_nat _ _ hx (by decide)]; rfl
  have b1 : x / 4 &&& 3689348814741910323 ≤ 3689348814741910323 := Nat.and_le_right
  have b2 : x &&& 3689348814741910323 ≤ 3689348814741910323 := Nat.and_le_right
  rw [e1, e2, ← Int.natCast_add, wrapN_small _ (by omega)]
  rfl
theorem step3 (x : Nat) (hx : x ≤ 7378697629483820646) : bits .and .u64 (IntKind.u64.wrap ((x : Int) / 16 + (x : Int))) 1085102592571150095 = (q3 1085102592571150095 x : Nat) := by
  have e : (x : Int) / 16 + (x : Int) = ((x / 16 + x : Nat) : Int) := by omega
  rw [e, wrapN_small _ (by omega), show (1085102592571150095 : Int) = ((1085102592571150095 : Nat) : Int) from rfl, u64_and_nat _ _ (by omega) (by decide)]
  rfl
theorem step4 (x m : Nat) : IntKind.u64.wrap ((x : Int) + (x : Int) / (m : Int)) = (((x + x / m) % 18446744073709551616 : Nat) : Int) := by
  have e : (x : Int) + (x : Int) / (m : Int) = ((x + x / m : Nat) : Int) := by rw [Int.natCast_add, Int.natCast_ediv]
  rw [e, wrapN_mod]
theorem step7 (u : Nat) (hu : u < 9223372036854775808) : bits .and .i64 (u : Int) 127 = ((u % 128 : Nat) : Int) := by
  have h := bits_mask .i64 63 (by decide) (fun n h0 h1 => by rw [IntKind.wrap_i64]; omega) 7 (by decide) (u : Int) (by omega) (by omega)
  rw [show ((2 : Int) ^ 7 - 1) = 127 from rfl] at h
  rw [h]
  omega
theorem c8_le (x : Nat) : q3 1085102592571150095 x ≤ 1085102592571150095 := Nat.and_le_right
theorem q1_le (x : Nat) : q1 6148914691236517205 x ≤ 12297829382473034410 := by
  have b1 : x / 2 &&& 6148914691236517205 ≤ 6148914691236517205 := Nat.and_le_right
  have b2 : x &&& 6148914691236517205 ≤ 6148914691236517205 := Nat.and_le_right
  unfold q1; omega
theorem q2_le (x : Nat) : q2 3689348814741910323 x ≤ 7378697629483820646 := by
  have b1 : x / 4 &&& 3689348814741910323 ≤ 3689348814741910323 := Nat.and_le_right
  have b2 : x &&& 3689348814741910323 ≤ 3689348814741910323 := Nat.and_le_right
  unfold q2; omega
def c8 (x : Nat) : Nat := q3 1085102592571150095 (q2 3689348814741910323 (q1 6148914691236517205 x))
theorem pop_all (x : Nat) (hx : x < 18446744073709551616) (y z u : Nat) (hy : y = (c8 x + c8 x / 256) % 18446744073709551616) (hz : z = (y + y / 65536) % 18446744073709551616) (hu : u = (z + z / 4294967296) % 18446744073709551616) : u % 128 = bitsN 64 x := by
  obtain ⟨d0, d1, d2, d3, d4, d5, d6, d7, h0, h1, h2, h3, h4, h5, h6, h7, rfl⟩ := bytes8 x hx
  have p0 := p_all _ h0
  have p1' := p_all _ h1
  have p2' := p_all _ h2
  have p3' := p_all _ h3
  have p4 := p_all _ h4
  have p5 := p_all _ h5
  have p6 := p_all _ h6
  have p7 := p_all _ h7
  unfold c8 at hy
  rw [q1_all h0 h1 h2 h3 h4 h5 h6 h7, q2_all p0.1 p1'.1 p2'.1 p3'.1 p4.1 p5.1 p6.1 p7.1, q3_all ⟨p0.2.1, p0.2.2.1⟩ ⟨p1'.2.1, p1'.2.2.1⟩ ⟨p2'.2.1, p2'.2.2.1⟩ ⟨p3'.2.1, p3'.2.2.1⟩ ⟨p4.2.1, p4.2.2.1⟩ ⟨p5.2.1, p5.2.2.1⟩ ⟨p6.2.1, p6.2.2.1⟩ ⟨p7.2.1, p7.2.2.1⟩,
    p0.2.2.2.1, p1'.2.2.2.1, p2'.2.2.2.1, p3'.2.2.2.1, p4.2.2.2.1, p5.2.2.2.1, p6.2.2.2.1, p7.2.2.2.1] at hy
  rw [bits_all h0 h1 h2 h3 h4 h5 h6 h7]
  exact sum_all p0.2.2.2.2 p1'.2.2.2.2 p2'.2.2.2.2 p3'.2.2.2.2 p4.2.2.2.2 p5.2.2.2.2 p6.2.2.2.2 p7.2.2.2.2 _ rfl y z u hy hz hu
end Go.Proofs.Ytefabkcfeekfiaa.Pop
