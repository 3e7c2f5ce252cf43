/- The cipher of blocks and the key wrap on words, in plain numbers and lists; no condition. -/
import Derived.Test.YteecamdcfkielaaDoorK
set_option linter.unusedVariables false
set_option linter.unusedSimpArgs false
namespace Go.Proofs.YteecamdcfkielaaDoor.Wr
open Go.RowKit Go.Proofs.YteecamdcfkielaaDoor.K
/-- A round's function, its four steps by themselves. -/
def mh1 (x k : Nat) : Nat := (x ^^^ k) * 11400714819323198485 % 18446744073709551616
def mh2 (y : Nat) : Nat := y ^^^ (y / 536870912)
def mh3 (y : Nat) : Nat := y * 13787848793156543929 % 18446744073709551616
def mh4 (y : Nat) : Nat := y ^^^ (y / 4294967296)
def mh (x k : Nat) : Nat := mh4 (mh3 (mh2 (mh1 x k)))
def key (s i : Nat) : Nat := (s + i) % 18446744073709551616
/-- A block's halves behind some rounds, there and back. -/
def encK (s : Nat) : Nat → Nat × Nat → Nat × Nat
  | 0, p => p
  | i + 1, p => ((encK s i p).2, (encK s i p).1 ^^^ mh (encK s i p).2 (key s (i + 1)))
def enc (s : Nat) (p : Nat × Nat) : Nat × Nat := encK s 4 p
def dec1 (s i : Nat) (p : Nat × Nat) : Nat × Nat := (p.2 ^^^ mh p.1 (key s i), p.1)
def dec (s : Nat) (p : Nat × Nat) : Nat × Nat := dec1 s 1 (dec1 s 2 (dec1 s 3 (dec1 s 4 p)))
theorem xor_lt {a b : Nat} (ha : a < 18446744073709551616) (hb : b < 18446744073709551616) : a ^^^ b < 18446744073709551616 := Nat.xor_lt_two_pow (n := 64) ha hb
theorem mh1_lt (x k : Nat) : mh1 x k < 18446744073709551616 := Nat.mod_lt _ (by decide)
theorem mh3_lt (y : Nat) : mh3 y < 18446744073709551616 := Nat.mod_lt _ (by decide)
theorem mh2_lt {y : Nat} (h : y < 18446744073709551616) : mh2 y < 18446744073709551616 := xor_lt h (by omega)
theorem mh4_lt {y : Nat} (h : y < 18446744073709551616) : mh4 y < 18446744073709551616 := xor_lt h (by omega)
theorem mh_lt (x k : Nat) : mh x k < 18446744073709551616 := mh4_lt (mh3_lt _)
theorem key_lt (s i : Nat) : key s i < 18446744073709551616 := Nat.mod_lt _ (by decide)
theorem xor_back (a b : Nat) : a ^^^ b ^^^ b = a := by rw [Nat.xor_assoc, Nat.xor_self, Nat.xor_zero]
theorem dec_step (s i : Nat) (p : Nat × Nat) : dec1 s (i + 1) (encK s (i + 1) p) = encK s i p := by
  unfold dec1
  rw [encK]
  simp only [xor_back]
theorem dec_enc (s : Nat) (p : Nat × Nat) : dec s (enc s p) = p := by
  unfold dec enc
  rw [dec_step, dec_step, dec_step, dec_step]
  rfl
theorem enc_dec (s : Nat) (p : Nat × Nat) : enc s (dec s p) = p := by
  simp only [enc, encK, dec, dec1, xor_back]
theorem encK_lt (s : Nat) (p : Nat × Nat) (h1 : p.1 < 18446744073709551616) (h2 : p.2 < 18446744073709551616) : ∀ i, (encK s i p).1 < 18446744073709551616 ∧ (encK s i p).2 < 18446744073709551616
  | 0 => ⟨h1, h2⟩
  | i + 1 => ⟨(encK_lt s p h1 h2 i).2, xor_lt (encK_lt s p h1 h2 i).1 (mh_lt _ _)⟩
theorem enc_lt (s : Nat) (p : Nat × Nat) (h1 : p.1 < 18446744073709551616) (h2 : p.2 < 18446744073709551616) : (enc s p).1 < 18446744073709551616 ∧ (enc s p).2 < 18446744073709551616 := encK_lt s p h1 h2 4
theorem dec1_lt (s i : Nat) (p : Nat × Nat) (h1 : p.1 < 18446744073709551616) (h2 : p.2 < 18446744073709551616) : (dec1 s i p).1 < 18446744073709551616 ∧ (dec1 s i p).2 < 18446744073709551616 := ⟨xor_lt h2 (mh_lt _ _), h1⟩
theorem dec_lt (s : Nat) (p : Nat × Nat) (h1 : p.1 < 18446744073709551616) (h2 : p.2 < 18446744073709551616) : (dec s p).1 < 18446744073709551616 ∧ (dec s p).2 < 18446744073709551616 := by
  have a := dec1_lt s 4 p h1 h2
  have b := dec1_lt s 3 _ a.1 a.2
  have c := dec1_lt s 2 _ b.1 b.2
  exact dec1_lt s 1 _ c.1 c.2
/-- A word's bytes, and the word of bytes. -/
def byte (n i : Nat) : UInt8 := UInt8.ofNat (n / 2 ^ (56 - 8 * i))
def b8 (n : Nat) : List UInt8 := (List.range 8).map (byte n)
def num (l : List UInt8) : Nat := l.foldl (fun n b => n * 256 + b.toNat) 0
theorem b8_length (n : Nat) : (b8 n).length = 8 := by simp [b8]
theorem num_snoc (l : List UInt8) (b : UInt8) : num (l ++ [b]) = num l * 256 + b.toNat := by simp [num]
theorem num_fold (l : List UInt8) : ∀ n : Nat, l.foldl (fun n b => n * 256 + b.toNat) n < (n + 1) * 256 ^ l.length := by
  induction l with
  | nil => intro n; simp
  | cons b l ih =>
    intro n
    have h := ih (n * 256 + b.toNat)
    have hb := b.toNat_lt
    have h2 : (n * 256 + b.toNat + 1) * 256 ^ l.length ≤ (n + 1) * 256 * 256 ^ l.length := Nat.mul_le_mul_right _ (by omega)
    rw [List.foldl_cons, List.length_cons, Nat.pow_succ, Nat.mul_comm (256 ^ l.length) 256, ← Nat.mul_assoc]
    omega
theorem num_lt (l : List UInt8) : num l < 256 ^ l.length := by
  have := num_fold l 0
  simpa [num] using this
theorem num_b8 (n : Nat) (h : n < 18446744073709551616) : num (b8 n) = n := by
  simp [num, b8, byte, List.range_succ]
  omega
theorem b8_num (l : List UInt8) (h : l.length = 8) : b8 (num l) = l := by
  match l, h with
  | [a, b, c, d, e, f, g, i], _ =>
    have ha := a.toNat_lt
    have hb := b.toNat_lt
    have hc := c.toNat_lt
    have hd := d.toNat_lt
    have he := e.toNat_lt
    have hf := f.toNat_lt
    have hg := g.toNat_lt
    have hi := i.toNat_lt
    simp only [b8, byte, num, List.range_succ, List.range_zero, List.nil_append, List.cons_append, List.map_cons, List.map_nil, List.foldl_cons, List.foldl_nil]
    simp only [List.cons.injEq, and_true]
    refine ⟨?_, ?_, ?_, ?_, ?_, ?_, ?_, ?_⟩ <;> (apply UInt8.toNat_inj.1; simp <;> omega)
theorem b8_inj {a b : Nat} (ha : a < 18446744073709551616) (hb : b < 18446744073709551616) (h : b8 a = b8 b) : a = b := by
  rw [← num_b8 a ha, ← num_b8 b hb, h]
end Go.Proofs.YteecamdcfkielaaDoor.Wr
