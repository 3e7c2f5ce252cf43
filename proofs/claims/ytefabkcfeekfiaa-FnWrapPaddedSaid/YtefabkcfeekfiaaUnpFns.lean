/- Plain facts on the bits by which extractPadding tells a padding; no condition. -/
import Derived.WalkKit
set_option linter.unusedVariables false
set_option linter.unusedSimpArgs false
namespace Go.Proofs.Ytefabkcfeekfiaa.Unp
open Go.RowKit
/-- All bits where b is at most a, none otherwise. -/
def mB (a b : Nat) : UInt8 := if b ≤ a then 255 else 0
theorem and8 (x y : UInt8) : bits .and .u8 (x.toNat : Int) (y.toNat : Int) = ((x &&& y).toNat : Int) := by rw [u8_and_nat _ _ x.toNat_lt y.toNat_lt, UInt8.toNat_and]
theorem xor8 (x y : UInt8) : bits .xor .u8 (x.toNat : Int) (y.toNat : Int) = ((x ^^^ y).toNat : Int) := by rw [u8_xor_nat _ _ x.toNat_lt y.toNat_lt, UInt8.toNat_xor]
theorem andNot8 (x y : UInt8) : bits .andNot .u8 (x.toNat : Int) (y.toNat : Int) = ((x &&& ~~~y).toNat : Int) := by rw [u8_andNot_nat _ _ x.toNat_lt y.toNat_lt, UInt8.toNat_and, UInt8.toNat_not]; rfl
theorem ones_xor (x : Nat) (hx : x < 18446744073709551616) : 18446744073709551615 ^^^ x = 18446744073709551615 - x := by
  have h : (BitVec.allOnes 64 ^^^ BitVec.ofNat 64 x).toNat = (~~~(BitVec.ofNat 64 x)).toNat := by rw [BitVec.allOnes_xor]
  rw [BitVec.toNat_xor, BitVec.toNat_not, BitVec.toNat_allOnes, BitVec.toNat_ofNat, Nat.mod_eq_of_lt hx] at h
  exact h
theorem not64 (x : Int) (h0 : 0 ≤ x) (h1 : x < 18446744073709551616) : bits .xor .u64 IntKind.u64.max x = 18446744073709551615 - x := by
  have hm : IntKind.u64.max = 18446744073709551615 := rfl
  rw [hm, u64_xor _ _ (by omega) (by omega) h0 h1]
  have : (18446744073709551615 : Int).toNat = 18446744073709551615 := rfl
  rw [this, ones_xor _ (by omega)]
  omega
theorem mask_eq (a b : Nat) (ha : a ≤ 100000) (hb : b ≤ 100000) : wrap32 (bits .xor .u64 IntKind.u64.max (IntKind.u64.wrap ((a : Int) - (b : Int)))) / 2147483648 % 256 = ((mB a b).toNat : Int) := by
  have hw : IntKind.u64.wrap ((a : Int) - (b : Int)) = ((a : Int) - (b : Int)) % 18446744073709551616 := by simp [IntKind.wrap, IntKind.bits, IntKind.signed]
  rw [hw, not64 _ (by omega) (by omega)]
  unfold mB wrap32
  split
  · rw [show ((255 : UInt8).toNat : Int) = 255 from rfl]; omega
  · rw [show ((0 : UInt8).toNat : Int) = 0 from rfl]; omega
theorem mask_eq' (a b : Nat) (ha : a ≤ 100000) (hb : b ≤ a) : wrap32 (bits .xor .u64 IntKind.u64.max ((a : Int) - (b : Int))) / 2147483648 % 256 = ((mB a b).toNat : Int) := by
  rw [not64 _ (by omega) (by omega)]
  unfold mB wrap32
  rw [if_pos hb, show ((255 : UInt8).toNat : Int) = 255 from rfl]
  omega
theorem shl4 (x : UInt8) : (x.toNat : Int) * (16 : Int) % (256 : Int) = ((x <<< 4).toNat : Int) := by
  rw [UInt8.toNat_shiftLeft]; simp [Nat.shiftLeft_eq]
theorem shl2 (x : UInt8) : (x.toNat : Int) * (4 : Int) % (256 : Int) = ((x <<< 2).toNat : Int) := by
  rw [UInt8.toNat_shiftLeft]; simp [Nat.shiftLeft_eq]
theorem shl1 (x : UInt8) : (x.toNat : Int) * (2 : Int) % (256 : Int) = ((x <<< 1).toNat : Int) := by
  rw [UInt8.toNat_shiftLeft]; simp [Nat.shiftLeft_eq]
/-- What the bits come to. -/
def fin (g : UInt8) : UInt8 := if g = 255 then 255 else 0
theorem fin_eq (g : UInt8) : (let a := g &&& (g <<< 4); let b := a &&& (a <<< 2); let c := b &&& (b <<< 1); IntKind.i8.wrap (c.toNat : Int) / 128 % 256 = ((fin g).toNat : Int)) := by
  have : ∀ n : Fin 256, (let g := UInt8.ofNat n; let a := g &&& (g <<< 4); let b := a &&& (a <<< 2); let c := b &&& (b <<< 1); IntKind.i8.wrap (c.toNat : Int) / 128 % 256 = ((fin g).toNat : Int)) := by decide +kernel
  have h := this ⟨g.toNat, g.toNat_lt⟩
  simpa using h
def raw (G : Int) : Int := IntKind.i8.wrap (bits .and .u8 (bits .and .u8 (bits .and .u8 G (G * 16 % 256)) (bits .and .u8 G (G * 16 % 256) * 4 % 256)) (bits .and .u8 (bits .and .u8 G (G * 16 % 256)) (bits .and .u8 G (G * 16 % 256) * 4 % 256) * 2 % 256)) / 128 % 256
theorem raw_eq (g : UInt8) : raw (g.toNat : Int) = ((fin g).toNat : Int) := by
  unfold raw
  have h := fin_eq g
  simp only [shl4, and8, shl2, shl1]
  exact h
theorem end_eq (p g : UInt8) : wrap64 (bits .and .u8 (p.toNat : Int) (raw (g.toNat : Int))) = ((p &&& fin g).toNat : Int) := by
  rw [raw_eq, and8]
  have := (p &&& fin g).toNat_lt
  unfold wrap64
  omega
theorem ret_ints {k k' : IntKind} {a b x y : Int} (h : a = b) (h' : x = y) : Ending.returned (.tuple #[.int k a, .int k' x]) = .returned (.tuple #[.int k b, .int k' y]) := by rw [h, h']
theorem xor_zero (a b : UInt8) : a ^^^ b = 0 ↔ a = b := UInt8.xor_eq_zero_iff
theorem and_full (a : UInt8) : a &&& 255 = a := by
  have h : ∀ n : Fin 256, UInt8.ofNat n &&& 255 = UInt8.ofNat n := by decide +kernel
  have := h ⟨a.toNat, a.toNat_lt⟩
  simpa using this
theorem full_and_not (b : UInt8) : (255 : UInt8) &&& ~~~b = 255 ↔ b = 0 := by
  have h : ∀ n : Fin 256, (255 : UInt8) &&& ~~~(UInt8.ofNat n) = 255 ↔ UInt8.ofNat n = 0 := by decide +kernel
  have := h ⟨b.toNat, b.toNat_lt⟩
  simpa using this
theorem and_not_full (a b : UInt8) : a &&& ~~~b = 255 ↔ a = 255 ∧ b = 0 := by
  constructor
  · intro h
    have h1 : a = 255 := by
      have hle : (a &&& ~~~b).toNat ≤ a.toNat := by rw [UInt8.toNat_and]; exact Nat.and_le_left
      rw [h] at hle
      have := a.toNat_lt
      apply UInt8.toNat_inj.1
      have e : (255 : UInt8).toNat = 255 := rfl
      omega
    subst h1
    exact ⟨rfl, (full_and_not b).1 h⟩
  · rintro ⟨rfl, rfl⟩
    decide
end Go.Proofs.Ytefabkcfeekfiaa.Unp
