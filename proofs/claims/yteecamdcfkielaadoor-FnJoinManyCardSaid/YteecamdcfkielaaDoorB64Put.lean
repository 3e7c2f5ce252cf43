/- Walks of BEPutUint32, BEPutUint64 into a place within a block; the conditions are on sizes alone. -/
import Derived.Test.YteecamdcfkielaaDoorB64Asm
set_option linter.unusedVariables false
set_option linter.unusedSimpArgs false
namespace Go.Proofs.YteecamdcfkielaaDoor.B64
open Go.RowKit Go.Proofs.YteecamdcfkielaaDoor.K Go.Proofs.YteecamdcfkielaaDoor.Own
def be4 (v : Nat) : List UInt8 := [UInt8.ofNat (v / 16777216), UInt8.ofNat (v / 65536 % 256), UInt8.ofNat (v / 256 % 256), UInt8.ofNat (v % 256)]
theorem sets4 (cs : List Value) (o : Nat) (a0 a1 a2 a3 : Value) (h : o + 4 ≤ cs.length) : (((cs.toArray.setIfInBounds o a0).setIfInBounds (o + 1) a1).setIfInBounds (o + 2) a2).setIfInBounds (o + 3) a3 = (splice cs o [a0, a1, a2, a3]).toArray := by
  simp only [List.setIfInBounds_toArray]
  congr 1
  apply List.ext_getElem?
  intro i
  simp only [splice, List.getElem?_set, List.length_set, List.getElem?_append, List.length_take, List.length_cons, List.length_nil, List.getElem?_take, List.getElem?_drop]
  rw [Nat.min_eq_left (by omega)]
  by_cases h1 : i < o
  · rw [if_neg (by omega), if_neg (by omega), if_neg (by omega), if_neg (by omega), if_pos h1, if_pos h1]
  · rw [if_neg h1]
    obtain ⟨d, rfl⟩ : ∃ d, i = o + d := ⟨i - o, by omega⟩
    rw [Nat.add_sub_cancel_left]
    by_cases hd : d < 4
    · rw [if_pos hd]
      match d, hd with
      | 0, _ => simp; omega
      | 1, _ => simp; omega
      | 2, _ => simp; omega
      | 3, _ => simp; omega
    · rw [if_neg hd, if_neg (by omega), if_neg (by omega), if_neg (by omega), if_neg (by omega)]
      congr 1
      omega
set_option maxRecDepth 100000 in
set_option maxHeartbeats 2000000 in
theorem BEPut4_calls (w : World) (gd o M c v : Nat) (cs : List Value) (hv : v < 4294967296) (hb : Blk w gd 5 cs.toArray) (hM : 4 ≤ M) (ho : o + M ≤ cs.length) :
    Calls Tryd.prog 70 #[.slice (some ⟨gd, o, none⟩) M c, .int .u32 (v : Nat)] w fun e w' => e = .returned (.tuple #[]) ∧ Blk w' gd 5 (splice cs o (bys (be4 v))).toArray ∧ w.grownBy w' (some gd) := by
  have hlast : ∃ u, w.cell? ⟨gd, o + 3, none⟩ = some u := by
    have hc := hb.cell (o + 3)
    rw [List.getElem?_toArray, List.getElem?_eq_getElem (by omega)] at hc
    exact ⟨_, hc⟩
  obtain ⟨u, hu⟩ := hlast
  have HB := Lib.hid hb
  have HO := Lib.hid ho
  have hm0 : (0 : Int) < (M : Int) := by omega
  have hm1 : (1 : Int) < (M : Int) := by omega
  have hm2 : (2 : Int) < (M : Int) := by omega
  have hm3 : (3 : Int) < (M : Int) := by omega
  obtain ⟨y0, hy0⟩ : ∃ y, y = v / 16777216 := ⟨_, rfl⟩
  have e0 : (v : Int) / 16777216 = (y0 : Nat) := by omega
  obtain ⟨y1, hy1⟩ : ∃ y, y = v / 65536 % 256 := ⟨_, rfl⟩
  have e1 : (v : Int) / 65536 % 256 = (y1 : Nat) := by omega
  obtain ⟨y2, hy2⟩ : ∃ y, y = v / 256 % 256 := ⟨_, rfl⟩
  have e2 : (v : Int) / 256 % 256 = (y2 : Nat) := by omega
  obtain ⟨y3, hy3⟩ : ∃ y, y = v % 256 := ⟨_, rfl⟩
  have e3 : (v : Int) % 256 = (y3 : Nat) := by omega
  have HY : Hid (bys (be4 v) = [.int .u8 (y0 : Nat), .int .u8 (y1 : Nat), .int .u8 (y2 : Nat), .int .u8 (y3 : Nat)]) := Lib.hid (by rw [hy0, hy1, hy2, hy3]; simp [bys, be4]; omega)
  clear hb ho hy0 hy1 hy2 hy3
  go_enter Tryd.func70, Tryd.ntmps70
  go_wp2_with (first
    | ((with_reducible refine st_at (.tmp 11) ?_); refine wpList_put (w0 := w) rfl rfl (.tmp 11) _ rfl gd (o) rfl _ rfl _ HB.out (by simp only [Array.size_setIfInBounds, List.size_toArray]; have := HO.out; omega) (World.grownBy.refl _ _) ?_; intro z0 hb0 hg0; have HB0 := Lib.hid hb0; have HG0 := Lib.hid hg0; clear hb0 hg0)
    | ((with_reducible refine st_at (.tmp 16) ?_); refine wpList_put (w0 := w) rfl rfl (.tmp 16) _ rfl gd (o + 1) rfl _ rfl _ HB0.out (by simp only [Array.size_setIfInBounds, List.size_toArray]; have := HO.out; omega) HG0.out ?_; intro z1 hb1 hg1; have HB1 := Lib.hid hb1; have HG1 := Lib.hid hg1; clear hb1 hg1)
    | ((with_reducible refine st_at (.tmp 21) ?_); refine wpList_put (w0 := w) rfl rfl (.tmp 21) _ rfl gd (o + 2) rfl _ rfl _ HB1.out (by simp only [Array.size_setIfInBounds, List.size_toArray]; have := HO.out; omega) HG1.out ?_; intro z2 hb2 hg2; have HB2 := Lib.hid hb2; have HG2 := Lib.hid hg2; clear hb2 hg2)
    | ((with_reducible refine st_at (.tmp 25) ?_); refine wpList_put (w0 := w) rfl rfl (.tmp 25) _ rfl gd (o + 3) rfl _ rfl _ HB2.out (by simp only [Array.size_setIfInBounds, List.size_toArray]; have := HO.out; omega) HG2.out ?_; intro z3 hb3 hg3; have HB3 := Lib.hid hb3; have HG3 := Lib.hid hg3; clear hb3 hg3))
  refine bodyPost_end (v := .tuple #[]) (by kernel_rfl) rfl ⟨rfl, ?_, HG3.out⟩
  have h := HB3.out
  rw [sets4 cs o _ _ _ _ (by have := HO.out; omega)] at h
  rw [e1, e2, e3] at h
  rw [HY.out]
  exact h
def be8 (v : Nat) : List UInt8 := [UInt8.ofNat (v / 72057594037927936), UInt8.ofNat (v / 281474976710656 % 256), UInt8.ofNat (v / 1099511627776 % 256), UInt8.ofNat (v / 4294967296 % 256), UInt8.ofNat (v / 16777216 % 256), UInt8.ofNat (v / 65536 % 256), UInt8.ofNat (v / 256 % 256), UInt8.ofNat (v % 256)]
theorem sets8 (cs : List Value) (o : Nat) (a0 a1 a2 a3 a4 a5 a6 a7 : Value) (h : o + 8 ≤ cs.length) : (((((((cs.toArray.setIfInBounds o a0).setIfInBounds (o + 1) a1).setIfInBounds (o + 2) a2).setIfInBounds (o + 3) a3).setIfInBounds (o + 4) a4).setIfInBounds (o + 5) a5).setIfInBounds (o + 6) a6).setIfInBounds (o + 7) a7 = (splice cs o [a0, a1, a2, a3, a4, a5, a6, a7]).toArray := by
  simp only [List.setIfInBounds_toArray]
  congr 1
  apply List.ext_getElem?
  intro i
  simp only [splice, List.getElem?_set, List.length_set, List.getElem?_append, List.length_take, List.length_cons, List.length_nil, List.getElem?_take, List.getElem?_drop]
  rw [Nat.min_eq_left (by omega)]
  by_cases h1 : i < o
  · rw [if_neg (by omega), if_neg (by omega), if_neg (by omega), if_neg (by omega), if_neg (by omega), if_neg (by omega), if_neg (by omega), if_neg (by omega), if_pos h1, if_pos h1]
  · rw [if_neg h1]
    obtain ⟨d, rfl⟩ : ∃ d, i = o + d := ⟨i - o, by omega⟩
    rw [Nat.add_sub_cancel_left]
    by_cases hd : d < 8
    · rw [if_pos hd]
      match d, hd with
      | 0, _ => simp; omega
      | 1, _ => simp; omega
      | 2, _ => simp; omega
      | 3, _ => simp; omega
      | 4, _ => simp; omega
      | 5, _ => simp; omega
      | 6, _ => simp; omega
      | 7, _ => simp; omega
    · rw [if_neg hd, if_neg (by omega), if_neg (by omega), if_neg (by omega), if_neg (by omega), if_neg (by omega), if_neg (by omega), if_neg (by omega), if_neg (by omega)]
      congr 1
      omega
set_option maxRecDepth 100000 in
set_option maxHeartbeats 2000000 in
theorem BEPut8_calls (w : World) (gd o M c v : Nat) (cs : List Value) (hv : v < 18446744073709551616) (hb : Blk w gd 5 cs.toArray) (hM : 8 ≤ M) (ho : o + M ≤ cs.length) :
    Calls Tryd.prog 67 #[.slice (some ⟨gd, o, none⟩) M c, .int .u64 (v : Nat)] w fun e w' => e = .returned (.tuple #[]) ∧ Blk w' gd 5 (splice cs o (bys (be8 v))).toArray ∧ w.grownBy w' (some gd) := by
  have hlast : ∃ u, w.cell? ⟨gd, o + 7, none⟩ = some u := by
    have hc := hb.cell (o + 7)
    rw [List.getElem?_toArray, List.getElem?_eq_getElem (by omega)] at hc
    exact ⟨_, hc⟩
  obtain ⟨u, hu⟩ := hlast
  have HB := Lib.hid hb
  have HO := Lib.hid ho
  have hm0 : (0 : Int) < (M : Int) := by omega
  have hm1 : (1 : Int) < (M : Int) := by omega
  have hm2 : (2 : Int) < (M : Int) := by omega
  have hm3 : (3 : Int) < (M : Int) := by omega
  have hm4 : (4 : Int) < (M : Int) := by omega
  have hm5 : (5 : Int) < (M : Int) := by omega
  have hm6 : (6 : Int) < (M : Int) := by omega
  have hm7 : (7 : Int) < (M : Int) := by omega
  obtain ⟨y0, hy0⟩ : ∃ y, y = v / 72057594037927936 := ⟨_, rfl⟩
  have e0 : (v : Int) / 72057594037927936 = (y0 : Nat) := by omega
  obtain ⟨y1, hy1⟩ : ∃ y, y = v / 281474976710656 % 256 := ⟨_, rfl⟩
  have e1 : (v : Int) / 281474976710656 % 256 = (y1 : Nat) := by omega
  obtain ⟨y2, hy2⟩ : ∃ y, y = v / 1099511627776 % 256 := ⟨_, rfl⟩
  have e2 : (v : Int) / 1099511627776 % 256 = (y2 : Nat) := by omega
  obtain ⟨y3, hy3⟩ : ∃ y, y = v / 4294967296 % 256 := ⟨_, rfl⟩
  have e3 : (v : Int) / 4294967296 % 256 = (y3 : Nat) := by omega
  obtain ⟨y4, hy4⟩ : ∃ y, y = v / 16777216 % 256 := ⟨_, rfl⟩
  have e4 : (v : Int) / 16777216 % 256 = (y4 : Nat) := by omega
  obtain ⟨y5, hy5⟩ : ∃ y, y = v / 65536 % 256 := ⟨_, rfl⟩
  have e5 : (v : Int) / 65536 % 256 = (y5 : Nat) := by omega
  obtain ⟨y6, hy6⟩ : ∃ y, y = v / 256 % 256 := ⟨_, rfl⟩
  have e6 : (v : Int) / 256 % 256 = (y6 : Nat) := by omega
  obtain ⟨y7, hy7⟩ : ∃ y, y = v % 256 := ⟨_, rfl⟩
  have e7 : (v : Int) % 256 = (y7 : Nat) := by omega
  have HY : Hid (bys (be8 v) = [.int .u8 (y0 : Nat), .int .u8 (y1 : Nat), .int .u8 (y2 : Nat), .int .u8 (y3 : Nat), .int .u8 (y4 : Nat), .int .u8 (y5 : Nat), .int .u8 (y6 : Nat), .int .u8 (y7 : Nat)]) := Lib.hid (by rw [hy0, hy1, hy2, hy3, hy4, hy5, hy6, hy7]; simp [bys, be8]; omega)
  clear hb ho hy0 hy1 hy2 hy3 hy4 hy5 hy6 hy7
  go_enter Tryd.func67, Tryd.ntmps67
  go_wp2_with (first
    | ((with_reducible refine st_at (.tmp 11) ?_); refine wpList_put (w0 := w) rfl rfl (.tmp 11) _ rfl gd (o) rfl _ rfl _ HB.out (by simp only [Array.size_setIfInBounds, List.size_toArray]; have := HO.out; omega) (World.grownBy.refl _ _) ?_; intro z0 hb0 hg0; have HB0 := Lib.hid hb0; have HG0 := Lib.hid hg0; clear hb0 hg0)
    | ((with_reducible refine st_at (.tmp 16) ?_); refine wpList_put (w0 := w) rfl rfl (.tmp 16) _ rfl gd (o + 1) rfl _ rfl _ HB0.out (by simp only [Array.size_setIfInBounds, List.size_toArray]; have := HO.out; omega) HG0.out ?_; intro z1 hb1 hg1; have HB1 := Lib.hid hb1; have HG1 := Lib.hid hg1; clear hb1 hg1)
    | ((with_reducible refine st_at (.tmp 21) ?_); refine wpList_put (w0 := w) rfl rfl (.tmp 21) _ rfl gd (o + 2) rfl _ rfl _ HB1.out (by simp only [Array.size_setIfInBounds, List.size_toArray]; have := HO.out; omega) HG1.out ?_; intro z2 hb2 hg2; have HB2 := Lib.hid hb2; have HG2 := Lib.hid hg2; clear hb2 hg2)
    | ((with_reducible refine st_at (.tmp 26) ?_); refine wpList_put (w0 := w) rfl rfl (.tmp 26) _ rfl gd (o + 3) rfl _ rfl _ HB2.out (by simp only [Array.size_setIfInBounds, List.size_toArray]; have := HO.out; omega) HG2.out ?_; intro z3 hb3 hg3; have HB3 := Lib.hid hb3; have HG3 := Lib.hid hg3; clear hb3 hg3)
    | ((with_reducible refine st_at (.tmp 31) ?_); refine wpList_put (w0 := w) rfl rfl (.tmp 31) _ rfl gd (o + 4) rfl _ rfl _ HB3.out (by simp only [Array.size_setIfInBounds, List.size_toArray]; have := HO.out; omega) HG3.out ?_; intro z4 hb4 hg4; have HB4 := Lib.hid hb4; have HG4 := Lib.hid hg4; clear hb4 hg4)
    | ((with_reducible refine st_at (.tmp 36) ?_); refine wpList_put (w0 := w) rfl rfl (.tmp 36) _ rfl gd (o + 5) rfl _ rfl _ HB4.out (by simp only [Array.size_setIfInBounds, List.size_toArray]; have := HO.out; omega) HG4.out ?_; intro z5 hb5 hg5; have HB5 := Lib.hid hb5; have HG5 := Lib.hid hg5; clear hb5 hg5)
    | ((with_reducible refine st_at (.tmp 41) ?_); refine wpList_put (w0 := w) rfl rfl (.tmp 41) _ rfl gd (o + 6) rfl _ rfl _ HB5.out (by simp only [Array.size_setIfInBounds, List.size_toArray]; have := HO.out; omega) HG5.out ?_; intro z6 hb6 hg6; have HB6 := Lib.hid hb6; have HG6 := Lib.hid hg6; clear hb6 hg6)
    | ((with_reducible refine st_at (.tmp 45) ?_); refine wpList_put (w0 := w) rfl rfl (.tmp 45) _ rfl gd (o + 7) rfl _ rfl _ HB6.out (by simp only [Array.size_setIfInBounds, List.size_toArray]; have := HO.out; omega) HG6.out ?_; intro z7 hb7 hg7; have HB7 := Lib.hid hb7; have HG7 := Lib.hid hg7; clear hb7 hg7))
  refine bodyPost_end (v := .tuple #[]) (by kernel_rfl) rfl ⟨rfl, ?_, HG7.out⟩
  have h := HB7.out
  rw [sets8 cs o _ _ _ _ _ _ _ _ (by have := HO.out; omega)] at h
  rw [e1, e2, e3, e4, e5, e6, e7] at h
  rw [HY.out]
  exact h
theorem be4_by3 (x : Nat) (h : x < 16777216) : be4 (x * 256) = by3 x ++ [0] := by
  simp only [be4, by3, List.cons_append, List.nil_append]
  congr 1
  · apply UInt8.toNat_inj.1; simp <;> omega
  · congr 1
    · apply UInt8.toNat_inj.1; simp <;> omega
    · congr 1
      · apply UInt8.toNat_inj.1; simp <;> omega
      · congr 1
        apply UInt8.toNat_inj.1; simp
theorem be8_by3 (x y : Nat) (h : x < 16777216) (h' : y < 16777216) : be8 ((x * 16777216 + y) * 65536) = by3 x ++ (by3 y ++ [0, 0]) := by
  simp only [be8, by3, List.cons_append, List.nil_append]
  congr 1
  · apply UInt8.toNat_inj.1; simp <;> omega
  · congr 1
    · apply UInt8.toNat_inj.1; simp <;> omega
    · congr 1
      · apply UInt8.toNat_inj.1; simp <;> omega
      · congr 1
        · apply UInt8.toNat_inj.1; simp <;> omega
        · congr 1
          · apply UInt8.toNat_inj.1; simp <;> omega
          · congr 1
            · apply UInt8.toNat_inj.1; simp <;> omega
            · congr 1
              · apply UInt8.toNat_inj.1; simp <;> omega
              · congr 1
                apply UInt8.toNat_inj.1; simp <;> omega
end Go.Proofs.YteecamdcfkielaaDoor.B64
