/- Base64 without padding, in plain lists; no condition. -/
import Derived.Test.YteecamdcfkielaaDoorB64Len
set_option linter.unusedVariables false
set_option linter.unusedSimpArgs false
namespace Go.Proofs.YteecamdcfkielaaDoor.B64
open Go.RowKit Go.Proofs.YteecamdcfkielaaDoor.K Go.Proofs.YteecamdcfkielaaDoor.Own
/-- The four letters of a number of 24 bits. -/
def let4 (al : List UInt8) (v : Nat) : List UInt8 := [bt al (v / 262144 % 64), bt al (v / 4096 % 64), bt al (v / 64 % 64), bt al (v % 64)]
theorem let4_len (al : List UInt8) (v : Nat) : (let4 al v).length = 4 := rfl
def val3 (bs : List UInt8) (j : Nat) : Nat := (bt bs (3 * j)).toNat * 65536 + (bt bs (3 * j + 1)).toNat * 256 + (bt bs (3 * j + 2)).toNat
def encG (al bs : List UInt8) : Nat → List UInt8
  | 0 => []
  | j + 1 => encG al bs j ++ let4 al (val3 bs j)
theorem encG_len (al bs : List UInt8) : ∀ j, (encG al bs j).length = 4 * j
  | 0 => rfl
  | j + 1 => by rw [encG, List.length_append, encG_len al bs j, let4_len]; omega
def encT (al bs : List UInt8) : List UInt8 :=
  if bs.length % 3 = 1 then (let4 al ((bt bs (bs.length / 3 * 3)).toNat * 65536)).take 2
  else if bs.length % 3 = 2 then (let4 al ((bt bs (bs.length / 3 * 3)).toNat * 65536 + (bt bs (bs.length / 3 * 3 + 1)).toNat * 256)).take 3
  else []
/-- What is written. -/
def encRaw (al bs : List UInt8) : List UInt8 := encG al bs (bs.length / 3) ++ encT al bs
theorem encRaw_len (al bs : List UInt8) : (encRaw al bs).length = rawLen bs.length := by
  rw [encRaw, List.length_append, encG_len, encT, rawLen]
  have h : bs.length % 3 < 3 := Nat.mod_lt _ (by decide)
  by_cases h1 : bs.length % 3 = 1
  · rw [if_pos h1, List.length_take, let4_len, h1]; omega
  · by_cases h2 : bs.length % 3 = 2
    · rw [if_neg h1, if_pos h2, List.length_take, let4_len, h2]; omega
    · rw [if_neg h1, if_neg h2, show bs.length % 3 = 0 by omega]; simp; omega
/-- The block that is written to, when j groups are done, and i letters of the next. -/
def outE (al bs : List UInt8) (N j : Nat) : List UInt8 := encG al bs j ++ List.replicate (N - 4 * j) 0
theorem outE_len (al bs : List UInt8) (N j : Nat) (h : 4 * j ≤ N) : (outE al bs N j).length = N := by
  rw [outE, List.length_append, encG_len, List.length_replicate]; omega
theorem outE_next (al bs : List UInt8) (N j : Nat) (h : 4 * j + 4 ≤ N) :
    ((((bys (outE al bs N j)).toArray.setIfInBounds (4 * j) (.int .u8 (bt al (val3 bs j / 262144 % 64)).toNat)).setIfInBounds (4 * j + 1) (.int .u8 (bt al (val3 bs j / 4096 % 64)).toNat)).setIfInBounds (4 * j + 2) (.int .u8 (bt al (val3 bs j / 64 % 64)).toNat)).setIfInBounds (4 * j + 3) (.int .u8 (bt al (val3 bs j % 64)).toNat) = (bys (outE al bs N (j + 1))).toArray := by
  obtain ⟨d, rfl⟩ : ∃ d, N = 4 * j + 4 + d := ⟨N - (4 * j + 4), by omega⟩
  have e1 : 4 * j + 4 + d - 4 * j = d + 4 := by omega
  have e2 : 4 * j + 4 + d - 4 * (j + 1) = d := by omega
  have hl : (bys (encG al bs j)).length = 4 * j := by rw [bys_length, encG_len]
  simp only [outE, e1, e2, bys_append, encG, List.setIfInBounds_toArray]
  congr 1
  rw [List.set_append_right _ _ (by omega), List.set_append_right _ _ (by omega), List.set_append_right _ _ (by omega), List.set_append_right _ _ (by omega), hl, List.append_assoc]
  simp only [Nat.sub_self, Nat.add_sub_cancel_left]
  simp [bys, let4, List.replicate_succ]
/-- Sums of bits as the walk writes them. -/
theorem u64_join3 (a b c : Nat) (ha : a < 256) (hb : b < 256) (hc : c < 256) : bits .or .u64 (bits .or .u64 ((a : Int) * 65536) ((b : Int) * 256)) (c : Int) = ((a * 65536 + b * 256 + c : Nat) : Int) := by
  rw [show (a : Int) * 65536 = ((a * 65536 : Nat) : Int) by rw [Int.natCast_mul]; rfl, show (b : Int) * 256 = ((b * 256 : Nat) : Int) by rw [Int.natCast_mul]; rfl,
    u64_or_nat _ _ (by omega) (by omega), nat_join 16 _ _ (by omega) (by omega), u64_or_nat _ _ (by omega) (by omega), nat_join 8 _ _ (by omega) (by omega)]
theorem u64_join2 (a b : Nat) (ha : a < 256) (hb : b < 256) : bits .or .u64 ((a : Int) * 65536) ((b : Int) * 256) = ((a * 65536 + b * 256 : Nat) : Int) := by
  rw [show (a : Int) * 65536 = ((a * 65536 : Nat) : Int) by rw [Int.natCast_mul]; rfl, show (b : Int) * 256 = ((b * 256 : Nat) : Int) by rw [Int.natCast_mul]; rfl,
    u64_or_nat _ _ (by omega) (by omega), nat_join 16 _ _ (by omega) (by omega)]
end Go.Proofs.YteecamdcfkielaaDoor.B64
