/- The walk of decodeQuantum on a text without ends of lines; the conditions are on sizes alone. -/
import Derived.Test.YteecamdcfkielaaDoorB64Write
import Derived.Test.YteecamdcfkielaaDoorPQuant
import Derived.Deep.LoopGhost
import Derived.Outline
import Derived.Deep.Cut
import Derived.Deep.CutRange
set_option linter.unusedVariables false
set_option linter.unusedSimpArgs false
namespace Go.Proofs.YteecamdcfkielaaDoor.B64
open Go.RowKit Go.Proofs.YteecamdcfkielaaDoor.K Go.Proofs.YteecamdcfkielaaDoor.Own
/-- What decodeQuantum gives. -/
def QPost (w : World) (gd o s : Nat) (cs : List Value) (f : UInt8 → Nat) (pad : Bool) (r : List UInt8) (e : Ending) (w' : World) : Prop :=
  w.grownBy w' (some gd) ∧
  ((∃ out m, quantR f pad r = some (out, m) ∧ e = .returned (.tuple #[.int .i64 (s + m : Nat), .int .i64 (out.length : Nat), .nilIface]) ∧ Blk w' gd 5 (splice cs o (bys out)).toArray) ∨
   (quantR f pad r = none ∧ ∃ (x y : Int) (T : TypeId) (v : Value), e = .returned (.tuple #[.int .i64 x, .int .i64 y, .iface T v])))
theorem QPost.bad {w w' : World} {gd o s : Nat} {cs : List Value} {f : UInt8 → Nat} {pad : Bool} {r : List UInt8} {e : Ending} (hb : Below w.heap.size w w') (hq : quantR f pad r = none) (x y : Int) (T : TypeId) (v : Value) (he : e = .returned (.tuple #[.int .i64 x, .int .i64 y, .iface T v])) :
    QPost w gd o s cs f pad r e w' := ⟨grown_of_below hb (Nat.le_refl _) _, .inr ⟨hq, x, y, T, v, he⟩⟩
theorem QPost.bad' {w w' : World} {gd o s : Nat} {cs : List Value} {f : UInt8 → Nat} {pad : Bool} {r : List UInt8} {e : Ending} (hb : w.grownBy w' (some gd)) (hq : quantR f pad r = none) (x y : Int) (T : TypeId) (v : Value) (he : e = .returned (.tuple #[.int .i64 x, .int .i64 y, .iface T v])) :
    QPost w gd o s cs f pad r e w' := ⟨hb, .inr ⟨hq, x, y, T, v, he⟩⟩
/-- The letters that are read so far. -/
def dbf (dm r : List UInt8) (i : Nat) : List UInt8 := (List.range 4).map fun m => if m < i then bt dm (bt r m).toNat else 0
theorem dbf_len (dm r : List UInt8) (i : Nat) : (dbf dm r i).length = 4 := by simp [dbf]
theorem dbf_at (dm r : List UInt8) (i m : Nat) (hm : m < 4) : bt (dbf dm r i) m = if m < i then bt dm (bt r m).toNat else 0 := by
  rw [bt_get _ _ (by rw [dbf_len]; exact hm)]
  simp [dbf]
theorem dbf_step (dm r : List UInt8) (i : Nat) (hi : i < 4) : (bys (dbf dm r i)).toArray.setIfInBounds i (.int .u8 ((bt dm (bt r i).toNat).toNat : Nat)) = (bys (dbf dm r (i + 1))).toArray := by
  rw [List.setIfInBounds_toArray]
  congr 1
  match i, hi with
  | 0, _ => rfl
  | 1, _ => rfl
  | 2, _ => rfl
  | 3, _ => rfl
/-- Three blocks: the letters, the place that is written, the encoding. -/
structure Tri (w W : World) (gd g : Nat) (y x e : Array Value) : Prop where
  d : Blk W w.heap.size 113 y
  t : Blk W gd 5 x
  e : Blk W g 78 e
  low : w.grownBy W (some gd)
  gd_ : gd < w.heap.size
  g_ : g < w.heap.size
  ne : g ≠ gd
theorem Tri.putD {w W W' : World} {gd g : Nat} {y x e y' : Array Value} (h : Tri w W gd g y x e) (hb : Blk W' w.heap.size 113 y') (hg : W.grownBy W' (some w.heap.size)) : Tri w W' gd g y' x e :=
  ⟨hb, h.t.keep hg (by have := h.gd_; omega), h.e.keep hg (by have := h.g_; omega),
   ⟨hg.os.trans h.low.os, hg.tape.trans h.low.tape, hg.output.trans h.low.output, Nat.le_trans h.low.size hg.size, fun i hi hne => (hg.block i (Nat.lt_of_lt_of_le hi h.low.size) (fun e => by have := Option.some.inj e; omega)).trans (h.low.block i hi hne)⟩, h.gd_, h.g_, h.ne⟩
theorem Tri.putG {w W W' : World} {gd g : Nat} {y x e x' : Array Value} (h : Tri w W gd g y x e) (hb : Blk W' gd 5 x') (hg : W.grownBy W' (some gd)) : Tri w W' gd g y x' e :=
  ⟨h.d.keep hg (by have := h.gd_; omega), hb, h.e.keep hg h.ne, grown_trans h.low hg, h.gd_, h.g_, h.ne⟩
theorem Tri.drewN {w W : World} {gd g : Nat} {y x e : Array Value} (h : Tri w W gd g y x e) (n : Nat) : Tri w (W.drewN n) gd g y x e :=
  ⟨h.d.drewN n, h.t.drewN n, h.e.drewN n, grown_drewN h.low n, h.gd_, h.g_, h.ne⟩
theorem u64_join4 (a b c d : Nat) (ha : a < 64) (hb : b < 64) (hc : c < 64) (hd : d < 64) : bits .or .u64 (bits .or .u64 (bits .or .u64 ((a : Int) * 262144) ((b : Int) * 4096)) ((c : Int) * 64)) (d : Int) = ((n4 a b c d : Nat) : Int) := by
  rw [show (a : Int) * 262144 = ((a * 262144 : Nat) : Int) by rw [Int.natCast_mul]; rfl, show (b : Int) * 4096 = ((b * 4096 : Nat) : Int) by rw [Int.natCast_mul]; rfl, show (c : Int) * 64 = ((c * 64 : Nat) : Int) by rw [Int.natCast_mul]; rfl,
    u64_or_nat _ _ (by omega) (by omega), nat_join 18 _ _ (by omega) (by omega), u64_or_nat _ _ (by omega) (by omega), nat_join 12 _ _ (by omega) (by omega), u64_or_nat _ _ (by omega) (by omega), nat_join 6 _ _ (by omega) (by omega)]
  rfl
theorem set3 (cs : List Value) (o : Nat) (a b c : Value) (h : o + 3 ≤ cs.length) : ((cs.toArray.setIfInBounds (o + 2) c).setIfInBounds (o + 1) b).setIfInBounds o a = (splice cs o [a, b, c]).toArray := by
  simp only [List.setIfInBounds_toArray]
  congr 1
  apply List.ext_getElem?
  intro i
  simp only [splice, List.getElem?_set, List.length_set, List.getElem?_append, List.length_take, List.length_cons, List.length_nil, List.getElem?_take, List.getElem?_drop]
  rw [Nat.min_eq_left (by omega)]
  by_cases h1 : i < o
  · rw [if_neg (by omega), if_neg (by omega), if_neg (by omega), if_pos h1, if_pos h1]
  · rw [if_neg h1]
    by_cases h2 : i = o
    · subst h2; simp; omega
    · by_cases h3 : i = o + 1
      · subst h3; simp; omega
      · by_cases h4 : i = o + 2
        · subst h4; simp; omega
        · rw [if_neg (by omega), if_neg (by omega), if_neg (by omega), if_neg (by omega)]
          congr 1
          omega
theorem set2 (cs : List Value) (o : Nat) (a b : Value) (h : o + 2 ≤ cs.length) : (cs.toArray.setIfInBounds (o + 1) b).setIfInBounds o a = (splice cs o [a, b]).toArray := by
  simp only [List.setIfInBounds_toArray]
  congr 1
  apply List.ext_getElem?
  intro i
  simp only [splice, List.getElem?_set, List.length_set, List.getElem?_append, List.length_take, List.length_cons, List.length_nil, List.getElem?_take, List.getElem?_drop]
  rw [Nat.min_eq_left (by omega)]
  by_cases h1 : i < o
  · rw [if_neg (by omega), if_neg (by omega), if_pos h1, if_pos h1]
  · rw [if_neg h1]
    by_cases h2 : i = o
    · subst h2; simp; omega
    · by_cases h3 : i = o + 1
      · subst h3; simp; omega
      · rw [if_neg (by omega), if_neg (by omega), if_neg (by omega)]
        congr 1
        omega
theorem set1 (cs : List Value) (o : Nat) (a : Value) (h : o + 1 ≤ cs.length) : cs.toArray.setIfInBounds o a = (splice cs o [a]).toArray := by
  simp only [List.setIfInBounds_toArray]
  congr 1
  apply List.ext_getElem?
  intro i
  simp only [splice, List.getElem?_set, List.length_set, List.getElem?_append, List.length_take, List.length_cons, List.length_nil, List.getElem?_take, List.getElem?_drop]
  rw [Nat.min_eq_left (by omega)]
  by_cases h1 : i < o
  · rw [if_neg (by omega), if_pos h1, if_pos h1]
  · rw [if_neg h1]
    by_cases h2 : i = o
    · subst h2; simp; omega
    · rw [if_neg (by omega), if_neg (by omega)]
      congr 1
      omega
theorem encC_map (al dm : List UInt8) (pad : Int) (c : Nat) (ha : al.length = 64) (hd : dm.length = 256) (hc : c < 256) : (encC al dm pad).toArray[64 + c]? = some (.int .u8 (bt dm c).toNat) := encC_at al dm pad c ha hd hc
theorem encC_padc (al dm : List UInt8) (pad : Int) (ha : al.length = 64) (hd : dm.length = 256) : (encC al dm pad).toArray[320]? = some (.int .i32 pad) := encC_pad_at al dm pad ha hd
theorem encC_strict (al dm : List UInt8) (pad : Int) (ha : al.length = 64) (hd : dm.length = 256) : (encC al dm pad).toArray[321]? = some (.bool false) := by
  rw [List.getElem?_toArray, encC, List.getElem?_append_right (by rw [bys_length]; omega), bys_length, ha, List.getElem?_append_right (by rw [bys_length]; omega), bys_length, hd]
  rfl
theorem bys_at (l : List UInt8) (k : Nat) (h : k < l.length) : (bys l).toArray[k]? = some (.int .u8 ((bt l k).toNat : Nat)) := by rw [List.getElem?_toArray, bys_get _ _ h, ← bt_get]
theorem bys3 (v : Nat) (h : v < 16777216) : bys (by3 v) = [.int .u8 ((v / 65536 : Nat) : Int), .int .u8 ((v / 256 % 256 : Nat) : Int), .int .u8 ((v % 256 : Nat) : Int)] := by
  rw [by3_at v h]
  simp [bys]
  omega
theorem bys4 (l : List UInt8) (h : l.length = 4) : (bys l).toArray = #[.int .u8 ((bt l 0).toNat : Nat), .int .u8 ((bt l 1).toNat : Nat), .int .u8 ((bt l 2).toNat : Nat), .int .u8 ((bt l 3).toNat : Nat)] := by
  match l, h with
  | [a, b, c, d], _ => rfl
theorem dbf_in {dm r : List UInt8} {f : UInt8 → Nat} (hf : ∀ c, f c = (bt dm c.toNat).toNat) {i : Nat} (m : Nat) (hm : m < 4) (hi : m < i) : (bt (dbf dm r i) m).toNat = f (bt r m) := by
  rw [dbf_at _ _ _ _ hm, if_pos hi, hf]
theorem dbf_out {dm r : List UInt8} {i : Nat} (m : Nat) (hm : m < 4) (hi : ¬ m < i) : (bt (dbf dm r i) m).toNat = 0 := by
  rw [dbf_at _ _ _ _ hm, if_neg hi]; rfl
theorem QPost.ok {w w' : World} {gd o s : Nat} {cs : List Value} {f : UInt8 → Nat} {pad : Bool} {r : List UInt8} {e : Ending} (hb : w.grownBy w' (some gd)) (out : List UInt8) (m : Nat) (hq : quantR f pad r = some (out, m))
    (he : e = .returned (.tuple #[.int .i64 (s + m : Nat), .int .i64 (out.length : Nat), .nilIface])) (hB : Blk w' gd 5 (splice cs o (bys out)).toArray) : QPost w gd o s cs f pad r e w' := ⟨hb, .inl ⟨out, m, hq, he, hB⟩⟩
theorem ret3 {a b a' b' : Int} {v : Value} (h : a = a') (h' : b = b') : Ending.returned (.tuple #[.int .i64 a, .int .i64 b, v]) = .returned (.tuple #[.int .i64 a', .int .i64 b', v]) := by rw [h, h']
set_option maxRecDepth 100000 in
set_option maxHeartbeats 4000000 in
theorem quantum_raw (w : World) (g gd o s M cD L cS : Nat) (pd : Option Addr) (ad : Addr) (t r al dm : List UInt8) (cs : List Value) (f : UInt8 → Nat) (ha : al.length = 64) (hd : dm.length = 256)
    (hf : ∀ c, f c = (bt dm c.toNat).toNat) (hf2 : ∀ c, f c < 64 ∨ f c = 255) (hf61 : f 61 = 255) (hnl : ∀ c ∈ t, c ≠ 10 ∧ c ≠ 13)
    (hrb : RB w (some ad) L t) (hr : r = t.drop s) (hsL : s < L) (hL : L ≤ 100000) (hne : g ≠ gd)
    (hb : Blk w g 78 (encC al dm (-1)).toArray) (hbd : Blk w gd 5 cs.toArray) (hpd : 0 < M → pd = some ⟨gd, o, none⟩) (hM4 : 4 ≤ r.length → 3 ≤ M) (hM3 : false = false → r.length = 3 → 2 ≤ M) (hM2 : false = false → r.length = 2 → 1 ≤ M) (hoM : o + M ≤ cs.length) (hcD : M ≤ cD) :
    Calls Tryd.prog 68 #[.pointer (some ⟨g, 0, none⟩), .slice pd M cD, .slice (some ad) L cS, .int .i64 (s : Nat)] w (QPost w gd o s cs f false r) := by
  have hLt := hrb.len
  have hrl : r.length = L - s := by rw [hr, List.length_drop, ← hLt]
  have hbr : ∀ i, bt r i = bt t (s + i) := fun i => by rw [hr, bt_drop]
  have HNL : Hid (∀ i, i < r.length → bt r i ≠ 10 ∧ bt r i ≠ 13) := Lib.hid (fun i hi => by
    have hi2 : s + i < t.length := by omega
    rw [hbr, bt_get _ _ hi2]
    exact hnl _ (List.getElem_mem hi2))
  have HCELL : Hid (∀ i, i < r.length → w.cell? (ad.add (s + i)) = some (.int .u8 (bt r i).toNat)) := Lib.hid (fun i hi => by
    obtain ⟨ad', e, hc⟩ := hrb.bt (k := s + i) (by omega)
    obtain rfl := Option.some.inj e
    rw [hbr]
    exact hc)
  have HADL : Hid (ad.block < w.heap.size) := Lib.hid (by
    obtain ⟨ad', e, hl, _⟩ := hrb.2 (by omega)
    obtain rfl := Option.some.inj e
    exact hl)
  have HRL := Lib.hid hrl
  have HF := Lib.hid hf
  have HF2 := Lib.hid hf2
  have HF61 := Lib.hid hf61
  have HPD := Lib.hid hpd
  have HM := Lib.hid (And.intro hM4 (And.intro hM3 hM2))
  have hTri : Tri w (w.alloc (.cells #[.int .u8 0, .int .u8 0, .int .u8 0, .int .u8 0] 113)) gd g (bys (dbf dm r 0)).toArray cs.toArray (encC al dm (-1)).toArray :=
    ⟨Blk.new _ _ _, hbd.alloc _, hb.alloc _, World.grownBy_alloc _ _ _, hbd.lt, hb.lt, hne⟩
  have HT0 := Lib.hid hTri
  have hi87 : (Tryd.prog.info? 76).map (·.size) = some (bys dm).length := by rw [bys_length, hd]; kernel_rfl
  have hrange : (w.alloc (.cells #[.int .u8 0, .int .u8 0, .int .u8 0, .int .u8 0] 113)).rangeAt g 64 (bys dm) := fun j v hv => by
    have hj : j < dm.length := by have := (List.getElem?_eq_some_iff.1 hv).1; simpa [bys] using this
    rw [(hb.alloc _).cell, encC_map _ _ _ _ ha hd (by omega), ← hv, bys_get _ _ hj, bt_get _ _ hj]
  have HRG := Lib.hid hrange
  have HI87 := Lib.hid hi87
  have HCS := Lib.hid hoM
  have HBE : Below w.heap.size w (w.alloc (.cells #[.int .u8 0, .int .u8 0, .int .u8 0, .int .u8 0] 113)) := below_alloc' (Below.refl _ _) _
  clear hLt hrl hbr hnl hrb hf hf2 hf61 hr hb hbd hTri hrange hi87 hpd hM4 hM3 hM2 hoM
  go_enter Tryd.func68, Tryd.ntmps68
  go_wp2_with (refine wpList_load_mid rfl 76 _ rfl g 64 rfl (bys dm) _ HRG.out Tryd.underlying76 rfl HI87.out ?_)
  go_loopg [3, 10, 12, 13] 4 (fun k si er dl j wr => ∃ i p : Nat, k + i = 4 ∧ i ≤ r.length ∧ si = .int .i64 (p : Nat) ∧ Hid (p = s + i) ∧ er = .nilIface ∧ dl = .int .i64 4 ∧ j = .int .i64 (i : Nat) ∧ Hid (∀ m, m < i → f (bt r m) < 64) ∧ Hid (Tri w wr gd g (bys (dbf dm r i)).toArray cs.toArray (encC al dm (-1)).toArray) ∧ Below w.heap.size w wr)
  case atStart => exact ⟨0, s, rfl, Nat.zero_le _, rfl, rfl, rfl, rfl, rfl, (fun m hm => by omega), HT0, HBE⟩
  case round =>
    clear HT0 HRG HI87 HBE
    obtain ⟨i, p, hk, hir, rfl, HP, rfl, rfl, rfl, HV, HT, HB⟩ := hrel
    by_cases hi4 : i = 4
    · subst hi4
      clear hk
      have hM : 4 ≤ M + 1 := (by have := HM.out.1 (by omega); omega)
      obtain rfl := HPD.out (by omega)
      have hM0 : (0 : Int) < (M : Int) := by omega
      have hm1 : (1 : Int) < (M : Int) := by omega
      have hm2 : (2 : Int) < (M : Int) := by omega

      obtain ⟨x0, hx0⟩ : ∃ x, x = (bt (dbf dm r 4) 0).toNat := ⟨_, rfl⟩
      obtain ⟨x1, hx1⟩ : ∃ x, x = (bt (dbf dm r 4) 1).toNat := ⟨_, rfl⟩
      obtain ⟨x2, hx2⟩ : ∃ x, x = (bt (dbf dm r 4) 2).toNat := ⟨_, rfl⟩
      obtain ⟨x3, hx3⟩ : ∃ x, x = (bt (dbf dm r 4) 3).toNat := ⟨_, rfl⟩
      have hxl : ∀ m, m < 4 → (bt (dbf dm r 4) m).toNat < 64 := fun m hm => by
        rw [dbf_at _ _ _ _ hm]
        by_cases hmi : m < 4
        · rw [if_pos hmi]; have := HV.out m hmi; rw [HF.out] at this; exact this
        · rw [if_neg hmi]; decide
      have hl0 : x0 < 64 := by rw [hx0]; exact hxl 0 (by decide)
      have hl1 : x1 < 64 := by rw [hx1]; exact hxl 1 (by decide)
      have hl2 : x2 < 64 := by rw [hx2]; exact hxl 2 (by decide)
      have hl3 : x3 < 64 := by rw [hx3]; exact hxl 3 (by decide)
      have tt := HT.out
      rw [bys4 _ (dbf_len dm r 4), ← hx0, ← hx1, ← hx2, ← hx3] at tt
      have T0 := Lib.hid tt
      clear tt
      have k0 : wr.cell? ⟨w.heap.size, 0, none⟩ = some (.int .u8 (x0 : Nat)) := by rw [T0.out.d.cell]; rfl
      have k1 : wr.cell? ⟨w.heap.size, 1, none⟩ = some (.int .u8 (x1 : Nat)) := by rw [T0.out.d.cell]; rfl
      have k2 : wr.cell? ⟨w.heap.size, 2, none⟩ = some (.int .u8 (x2 : Nat)) := by rw [T0.out.d.cell]; rfl
      have k3 : wr.cell? ⟨w.heap.size, 3, none⟩ = some (.int .u8 (x3 : Nat)) := by rw [T0.out.d.cell]; rfl

      obtain ⟨V, hVd⟩ : ∃ V, V = n4 x0 x1 x2 x3 := ⟨_, rfl⟩
      have hVl : V < 16777216 := by rw [hVd]; unfold n4; omega
      have hV1 := u64_join4 x0 x1 x2 x3 hl0 hl1 hl2 hl3
      rw [← hVd] at hV1
      obtain ⟨y0, hy0⟩ : ∃ y, y = V / 65536 := ⟨_, rfl⟩
      obtain ⟨y1, hy1⟩ : ∃ y, y = V / 256 % 256 := ⟨_, rfl⟩
      obtain ⟨y2, hy2⟩ : ∃ y, y = V % 256 := ⟨_, rfl⟩
      have e0 : (V : Int) / 65536 = (y0 : Nat) := by omega
      have e1 : (V : Int) / 256 % 256 = (y1 : Nat) := by omega
      have e2 : (V : Int) % 256 = (y2 : Nat) := by omega
      have strict : ∀ (W : World) (Y X : Array Value), Tri w W gd g Y X (encC al dm (-1)).toArray → W.cell? ⟨g, 321, none⟩ = some (.bool false) := fun W Y X h => by rw [h.e.cell, encC_strict _ _ _ ha hd]
      have STR := Lib.hid strict
      have HVD := Lib.hid hVd
      have HY := Lib.hid (And.intro hy0 (And.intro hy1 hy2))
      have HXX := Lib.hid (And.intro hx0 (And.intro hx1 (And.intro hx2 hx3)))
      clear hx0 hx1 hx2 hx3 hVd hy0 hy1 hy2 strict hxl
      go_upto_region 41 with (fail)
      clear k0 k1 k2 k3
      go_wp2_with (first
        | ((with_reducible refine st_at (.tmp 205) ?_); refine wpList_put rfl rfl (.tmp 205) _ rfl (w.heap.size) (2) rfl _ rfl _ T4.out.d (by show _ < 4; decide) (World.grownBy.refl _ _) ?_; intro zz hbz hgz; have T5 := Lib.hid (T4.out.putD hbz hgz); clear hbz hgz; have k51 : zz.cell? ⟨w.heap.size, 1, none⟩ = some (.int .u8 (y1 : Nat)) := (by rw [T5.out.d.cell]; simp [e0, e1, e2]))
        | ((with_reducible refine st_at (.tmp 223) ?_); refine wpList_put rfl rfl (.tmp 223) _ rfl (w.heap.size) (1) rfl _ rfl _ T6.out.d (by show _ < 4; decide) (World.grownBy.refl _ _) ?_; intro zz hbz hgz; have T7 := Lib.hid (T6.out.putD hbz hgz); clear hbz hgz; have k70 : zz.cell? ⟨w.heap.size, 0, none⟩ = some (.int .u8 (y0 : Nat)) := (by rw [T7.out.d.cell]; simp [e0, e1, e2]))
        | ((with_reducible refine st_at (.tmp 191) ?_); refine wpList_put rfl rfl (.tmp 191) _ rfl (w.heap.size) (2) rfl _ rfl _ T0.out.d (by show _ < 4; decide) (World.grownBy.refl _ _) ?_; intro zz hbz hgz; have T1 := Lib.hid (T0.out.putD hbz hgz); clear hbz hgz; skip)
        | ((with_reducible refine st_at (.tmp 192) ?_); refine wpList_put rfl rfl (.tmp 192) _ rfl (w.heap.size) (1) rfl _ rfl _ T1.out.d (by show _ < 4; decide) (World.grownBy.refl _ _) ?_; intro zz hbz hgz; have T2 := Lib.hid (T1.out.putD hbz hgz); clear hbz hgz; skip)
        | ((with_reducible refine st_at (.tmp 193) ?_); refine wpList_put rfl rfl (.tmp 193) _ rfl (w.heap.size) (0) rfl _ rfl _ T2.out.d (by show _ < 4; decide) (World.grownBy.refl _ _) ?_; intro zz hbz hgz; have T3 := Lib.hid (T2.out.putD hbz hgz); clear hbz hgz; have k32 : zz.cell? ⟨w.heap.size, 2, none⟩ = some (.int .u8 (y2 : Nat)) := (by rw [T3.out.d.cell]; simp [e0, e1, e2]))
        | ((with_reducible refine st_at (.tmp 204) ?_); refine wpList_put rfl rfl (.tmp 204) _ rfl (gd) (o + 2) rfl _ rfl _ T3.out.t (by simp only [Array.size_setIfInBounds, List.size_toArray]; have := HCS.out; omega) (World.grownBy.refl _ _) ?_; intro zz hbz hgz; have T4 := Lib.hid (T3.out.putG hbz hgz); clear hbz hgz; clear k32)
        | ((with_reducible refine st_at (.tmp 209) ?_); refine wpList_put rfl rfl (.tmp 209) _ rfl (gd) (o + 1) rfl _ rfl _ T5.out.t (by simp only [Array.size_setIfInBounds, List.size_toArray]; have := HCS.out; omega) (World.grownBy.refl _ _) ?_; intro zz hbz hgz; have T6 := Lib.hid (T5.out.putG hbz hgz); clear hbz hgz; clear k51; have s6 := STR.out zz _ _ T6.out)
        | ((with_reducible refine st_at (.tmp 227) ?_); refine wpList_put rfl rfl (.tmp 227) _ rfl (gd) (o) rfl _ rfl _ T7.out.t (by simp only [Array.size_setIfInBounds, List.size_toArray]; have := HCS.out; omega) (World.grownBy.refl _ _) ?_; intro zz hbz hgz; have T8 := Lib.hid (T7.out.putG hbz hgz); clear hbz hgz; clear k70; have s8 := STR.out zz _ _ T8.out))

      go_ret3
      have hVV : V = n4 (f (bt r 0)) (f (bt r 1)) (f (bt r 2)) (f (bt r 3)) := by rw [HVD.out, HXX.out.1, dbf_in HF.out 0 (by decide) (by decide), HXX.out.2.1, dbf_in HF.out 1 (by decide) (by decide), HXX.out.2.2.1, dbf_in HF.out 2 (by decide) (by decide), HXX.out.2.2.2, dbf_in HF.out 3 (by decide) (by decide)]
      have hb := T8.out.t
      rw [set3 _ _ _ _ _ (by have := HCS.out; omega)] at hb
      refine QPost.ok T8.out.low (by3 V) 4 ?_ (ret3 (by have := HP.out; omega) rfl) ?_
      · rw [hVV]; exact q_4 (by omega) (HV.out 0 (by decide)) (HV.out 1 (by decide)) (HV.out 2 (by decide)) (HV.out 3 (by decide))
      · have hB3 := bys3 V hVl
        rw [← HY.out.1, ← HY.out.2.1, ← HY.out.2.2] at hB3
        rw [hB3]
        exact hb
    have hi : i < 4 := by omega
    have hii : (i : Int) < 4 := by omega
    have HI := Lib.hid hi
    have HK := Lib.hid hk
    clear hi4 hk
    by_cases hend : i = r.length
    · obtain rfl : p = L := by have := HP.out; have := HRL.out; omega
      have hi0 : i ≠ 0 := by have := HRL.out; omega
      clear hir hii
      by_cases h1 : i = 1
      · subst h1
        have HQ := Lib.hid (q_end1 (f := f) (pad := false) hend.symm)
        clear hend
        go_wp2
        go_ret3
        exact QPost.bad HB (HQ.out) _ _ _ _ rfl
      by_cases h2 : i = 2
      · subst h2
        have HQ := Lib.hid (q_end2 (f := f) hend.symm (HV.out 0 (by decide)) (HV.out 1 (by decide)))
        have HEND := Lib.hid hend
        clear hend h1 hi
        have c320 : wr.cell? ⟨g, 320, none⟩ = some (.int .i32 (-1)) := by rw [HT.out.e.cell, encC_padc _ _ _ ha hd]
        have hM : 2 ≤ M + 1 := (by have h := HM.out; have := h.2.2 trivial HEND.out.symm; omega)
        obtain rfl := HPD.out (by omega)
        have hM0 : (0 : Int) < (M : Int) := by omega

        obtain ⟨x0, hx0⟩ : ∃ x, x = (bt (dbf dm r 2) 0).toNat := ⟨_, rfl⟩
        obtain ⟨x1, hx1⟩ : ∃ x, x = (bt (dbf dm r 2) 1).toNat := ⟨_, rfl⟩
        obtain ⟨x2, hx2⟩ : ∃ x, x = (bt (dbf dm r 2) 2).toNat := ⟨_, rfl⟩
        obtain ⟨x3, hx3⟩ : ∃ x, x = (bt (dbf dm r 2) 3).toNat := ⟨_, rfl⟩
        have hxl : ∀ m, m < 4 → (bt (dbf dm r 2) m).toNat < 64 := fun m hm => by
          rw [dbf_at _ _ _ _ hm]
          by_cases hmi : m < 2
          · rw [if_pos hmi]; have := HV.out m hmi; rw [HF.out] at this; exact this
          · rw [if_neg hmi]; decide
        have hl0 : x0 < 64 := by rw [hx0]; exact hxl 0 (by decide)
        have hl1 : x1 < 64 := by rw [hx1]; exact hxl 1 (by decide)
        have hl2 : x2 < 64 := by rw [hx2]; exact hxl 2 (by decide)
        have hl3 : x3 < 64 := by rw [hx3]; exact hxl 3 (by decide)
        have tt := HT.out
        rw [bys4 _ (dbf_len dm r 2), ← hx0, ← hx1, ← hx2, ← hx3] at tt
        have T0 := Lib.hid tt
        clear tt
        have k0 : wr.cell? ⟨w.heap.size, 0, none⟩ = some (.int .u8 (x0 : Nat)) := by rw [T0.out.d.cell]; rfl
        have k1 : wr.cell? ⟨w.heap.size, 1, none⟩ = some (.int .u8 (x1 : Nat)) := by rw [T0.out.d.cell]; rfl
        have k2 : wr.cell? ⟨w.heap.size, 2, none⟩ = some (.int .u8 (x2 : Nat)) := by rw [T0.out.d.cell]; rfl
        have k3 : wr.cell? ⟨w.heap.size, 3, none⟩ = some (.int .u8 (x3 : Nat)) := by rw [T0.out.d.cell]; rfl

        obtain ⟨V, hVd⟩ : ∃ V, V = n4 x0 x1 x2 x3 := ⟨_, rfl⟩
        have hVl : V < 16777216 := by rw [hVd]; unfold n4; omega
        have hV1 := u64_join4 x0 x1 x2 x3 hl0 hl1 hl2 hl3
        rw [← hVd] at hV1
        obtain ⟨y0, hy0⟩ : ∃ y, y = V / 65536 := ⟨_, rfl⟩
        obtain ⟨y1, hy1⟩ : ∃ y, y = V / 256 % 256 := ⟨_, rfl⟩
        obtain ⟨y2, hy2⟩ : ∃ y, y = V % 256 := ⟨_, rfl⟩
        have e0 : (V : Int) / 65536 = (y0 : Nat) := by omega
        have e1 : (V : Int) / 256 % 256 = (y1 : Nat) := by omega
        have e2 : (V : Int) % 256 = (y2 : Nat) := by omega
        have strict : ∀ (W : World) (Y X : Array Value), Tri w W gd g Y X (encC al dm (-1)).toArray → W.cell? ⟨g, 321, none⟩ = some (.bool false) := fun W Y X h => by rw [h.e.cell, encC_strict _ _ _ ha hd]
        have STR := Lib.hid strict
        have HVD := Lib.hid hVd
        have HY := Lib.hid (And.intro hy0 (And.intro hy1 hy2))
        have HXX := Lib.hid (And.intro hx0 (And.intro hx1 (And.intro hx2 hx3)))
        clear hx0 hx1 hx2 hx3 hVd hy0 hy1 hy2 strict hxl
        go_upto_region 41 with (fail)
        clear k0 k1 k2 k3
        go_wp2_with (first
          | ((with_reducible refine st_at (.tmp 191) ?_); refine wpList_put rfl rfl (.tmp 191) _ rfl (w.heap.size) (2) rfl _ rfl _ T0.out.d (by show _ < 4; decide) (World.grownBy.refl _ _) ?_; intro zz hbz hgz; have T1 := Lib.hid (T0.out.putD hbz hgz); clear hbz hgz; skip)
          | ((with_reducible refine st_at (.tmp 192) ?_); refine wpList_put rfl rfl (.tmp 192) _ rfl (w.heap.size) (1) rfl _ rfl _ T1.out.d (by show _ < 4; decide) (World.grownBy.refl _ _) ?_; intro zz hbz hgz; have T2 := Lib.hid (T1.out.putD hbz hgz); clear hbz hgz; skip)
          | ((with_reducible refine st_at (.tmp 193) ?_); refine wpList_put rfl rfl (.tmp 193) _ rfl (w.heap.size) (0) rfl _ rfl _ T2.out.d (by show _ < 4; decide) (World.grownBy.refl _ _) ?_; intro zz hbz hgz; have T3 := Lib.hid (T2.out.putD hbz hgz); clear hbz hgz; have k30 : zz.cell? ⟨w.heap.size, 0, none⟩ = some (.int .u8 (y0 : Nat)) := (by rw [T3.out.d.cell]; simp [e0, e1, e2]))
          | ((with_reducible refine st_at (.tmp 227) ?_); refine wpList_put rfl rfl (.tmp 227) _ rfl (gd) (o) rfl _ rfl _ T3.out.t (by simp only [Array.size_setIfInBounds, List.size_toArray]; have := HCS.out; omega) (World.grownBy.refl _ _) ?_; intro zz hbz hgz; have T8 := Lib.hid (T3.out.putG hbz hgz); clear hbz hgz; clear k30; have s8 := STR.out zz _ _ T8.out))

        go_ret3
        have hVV : V = n4 (f (bt r 0)) (f (bt r 1)) (0) (0) := by rw [HVD.out, HXX.out.1, dbf_in HF.out 0 (by decide) (by decide), HXX.out.2.1, dbf_in HF.out 1 (by decide) (by decide), HXX.out.2.2.1, dbf_out 2 (by decide) (by decide), HXX.out.2.2.2, dbf_out 3 (by decide) (by decide)]
        have hb := T8.out.t
        rw [set1 _ _ _ (by have := HCS.out; omega)] at hb
        refine QPost.ok T8.out.low ((by3 V).take 1) 2 ?_ (ret3 (by have := HP.out; omega) rfl) ?_
        · rw [hVV]; exact HQ.out
        · have hB3 := bys3 V hVl
          rw [← HY.out.1, ← HY.out.2.1, ← HY.out.2.2] at hB3
          have hB4 : bys ((by3 V).take 1) = (bys (by3 V)).take 1 := by simp [bys]
          rw [hB4, hB3]
          exact hb
      by_cases h3 : i = 3
      · subst h3
        have HQ := Lib.hid (q_end3 (f := f) hend.symm (HV.out 0 (by decide)) (HV.out 1 (by decide)) (HV.out 2 (by decide)))
        have HEND := Lib.hid hend
        clear hend h1 h2 hi
        have c320 : wr.cell? ⟨g, 320, none⟩ = some (.int .i32 (-1)) := by rw [HT.out.e.cell, encC_padc _ _ _ ha hd]
        have hM : 3 ≤ M + 1 := (by have h := HM.out; have := h.2.1 trivial HEND.out.symm; omega)
        obtain rfl := HPD.out (by omega)
        have hM0 : (0 : Int) < (M : Int) := by omega
        have hm1 : (1 : Int) < (M : Int) := by omega

        obtain ⟨x0, hx0⟩ : ∃ x, x = (bt (dbf dm r 3) 0).toNat := ⟨_, rfl⟩
        obtain ⟨x1, hx1⟩ : ∃ x, x = (bt (dbf dm r 3) 1).toNat := ⟨_, rfl⟩
        obtain ⟨x2, hx2⟩ : ∃ x, x = (bt (dbf dm r 3) 2).toNat := ⟨_, rfl⟩
        obtain ⟨x3, hx3⟩ : ∃ x, x = (bt (dbf dm r 3) 3).toNat := ⟨_, rfl⟩
        have hxl : ∀ m, m < 4 → (bt (dbf dm r 3) m).toNat < 64 := fun m hm => by
          rw [dbf_at _ _ _ _ hm]
          by_cases hmi : m < 3
          · rw [if_pos hmi]; have := HV.out m hmi; rw [HF.out] at this; exact this
          · rw [if_neg hmi]; decide
        have hl0 : x0 < 64 := by rw [hx0]; exact hxl 0 (by decide)
        have hl1 : x1 < 64 := by rw [hx1]; exact hxl 1 (by decide)
        have hl2 : x2 < 64 := by rw [hx2]; exact hxl 2 (by decide)
        have hl3 : x3 < 64 := by rw [hx3]; exact hxl 3 (by decide)
        have tt := HT.out
        rw [bys4 _ (dbf_len dm r 3), ← hx0, ← hx1, ← hx2, ← hx3] at tt
        have T0 := Lib.hid tt
        clear tt
        have k0 : wr.cell? ⟨w.heap.size, 0, none⟩ = some (.int .u8 (x0 : Nat)) := by rw [T0.out.d.cell]; rfl
        have k1 : wr.cell? ⟨w.heap.size, 1, none⟩ = some (.int .u8 (x1 : Nat)) := by rw [T0.out.d.cell]; rfl
        have k2 : wr.cell? ⟨w.heap.size, 2, none⟩ = some (.int .u8 (x2 : Nat)) := by rw [T0.out.d.cell]; rfl
        have k3 : wr.cell? ⟨w.heap.size, 3, none⟩ = some (.int .u8 (x3 : Nat)) := by rw [T0.out.d.cell]; rfl

        obtain ⟨V, hVd⟩ : ∃ V, V = n4 x0 x1 x2 x3 := ⟨_, rfl⟩
        have hVl : V < 16777216 := by rw [hVd]; unfold n4; omega
        have hV1 := u64_join4 x0 x1 x2 x3 hl0 hl1 hl2 hl3
        rw [← hVd] at hV1
        obtain ⟨y0, hy0⟩ : ∃ y, y = V / 65536 := ⟨_, rfl⟩
        obtain ⟨y1, hy1⟩ : ∃ y, y = V / 256 % 256 := ⟨_, rfl⟩
        obtain ⟨y2, hy2⟩ : ∃ y, y = V % 256 := ⟨_, rfl⟩
        have e0 : (V : Int) / 65536 = (y0 : Nat) := by omega
        have e1 : (V : Int) / 256 % 256 = (y1 : Nat) := by omega
        have e2 : (V : Int) % 256 = (y2 : Nat) := by omega
        have strict : ∀ (W : World) (Y X : Array Value), Tri w W gd g Y X (encC al dm (-1)).toArray → W.cell? ⟨g, 321, none⟩ = some (.bool false) := fun W Y X h => by rw [h.e.cell, encC_strict _ _ _ ha hd]
        have STR := Lib.hid strict
        have HVD := Lib.hid hVd
        have HY := Lib.hid (And.intro hy0 (And.intro hy1 hy2))
        have HXX := Lib.hid (And.intro hx0 (And.intro hx1 (And.intro hx2 hx3)))
        clear hx0 hx1 hx2 hx3 hVd hy0 hy1 hy2 strict hxl
        go_upto_region 41 with (fail)
        clear k0 k1 k2 k3
        go_wp2_with (first
          | ((with_reducible refine st_at (.tmp 223) ?_); refine wpList_put rfl rfl (.tmp 223) _ rfl (w.heap.size) (1) rfl _ rfl _ T6.out.d (by show _ < 4; decide) (World.grownBy.refl _ _) ?_; intro zz hbz hgz; have T7 := Lib.hid (T6.out.putD hbz hgz); clear hbz hgz; have k70 : zz.cell? ⟨w.heap.size, 0, none⟩ = some (.int .u8 (y0 : Nat)) := (by rw [T7.out.d.cell]; simp [e0, e1, e2]))
          | ((with_reducible refine st_at (.tmp 191) ?_); refine wpList_put rfl rfl (.tmp 191) _ rfl (w.heap.size) (2) rfl _ rfl _ T0.out.d (by show _ < 4; decide) (World.grownBy.refl _ _) ?_; intro zz hbz hgz; have T1 := Lib.hid (T0.out.putD hbz hgz); clear hbz hgz; skip)
          | ((with_reducible refine st_at (.tmp 192) ?_); refine wpList_put rfl rfl (.tmp 192) _ rfl (w.heap.size) (1) rfl _ rfl _ T1.out.d (by show _ < 4; decide) (World.grownBy.refl _ _) ?_; intro zz hbz hgz; have T2 := Lib.hid (T1.out.putD hbz hgz); clear hbz hgz; skip)
          | ((with_reducible refine st_at (.tmp 193) ?_); refine wpList_put rfl rfl (.tmp 193) _ rfl (w.heap.size) (0) rfl _ rfl _ T2.out.d (by show _ < 4; decide) (World.grownBy.refl _ _) ?_; intro zz hbz hgz; have T3 := Lib.hid (T2.out.putD hbz hgz); clear hbz hgz; have k31 : zz.cell? ⟨w.heap.size, 1, none⟩ = some (.int .u8 (y1 : Nat)) := (by rw [T3.out.d.cell]; simp [e0, e1, e2]))
          | ((with_reducible refine st_at (.tmp 209) ?_); refine wpList_put rfl rfl (.tmp 209) _ rfl (gd) (o + 1) rfl _ rfl _ T3.out.t (by simp only [Array.size_setIfInBounds, List.size_toArray]; have := HCS.out; omega) (World.grownBy.refl _ _) ?_; intro zz hbz hgz; have T6 := Lib.hid (T3.out.putG hbz hgz); clear hbz hgz; clear k31; have s6 := STR.out zz _ _ T6.out)
          | ((with_reducible refine st_at (.tmp 227) ?_); refine wpList_put rfl rfl (.tmp 227) _ rfl (gd) (o) rfl _ rfl _ T7.out.t (by simp only [Array.size_setIfInBounds, List.size_toArray]; have := HCS.out; omega) (World.grownBy.refl _ _) ?_; intro zz hbz hgz; have T8 := Lib.hid (T7.out.putG hbz hgz); clear hbz hgz; clear k70; have s8 := STR.out zz _ _ T8.out))

        go_ret3
        have hVV : V = n4 (f (bt r 0)) (f (bt r 1)) (f (bt r 2)) (0) := by rw [HVD.out, HXX.out.1, dbf_in HF.out 0 (by decide) (by decide), HXX.out.2.1, dbf_in HF.out 1 (by decide) (by decide), HXX.out.2.2.1, dbf_in HF.out 2 (by decide) (by decide), HXX.out.2.2.2, dbf_out 3 (by decide) (by decide)]
        have hb := T8.out.t
        rw [set2 _ _ _ _ (by have := HCS.out; omega)] at hb
        refine QPost.ok T8.out.low ((by3 V).take 2) 3 ?_ (ret3 (by have := HP.out; omega) rfl) ?_
        · rw [hVV]; exact HQ.out
        · have hB3 := bys3 V hVl
          rw [← HY.out.1, ← HY.out.2.1, ← HY.out.2.2] at hB3
          have hB4 : bys ((by3 V).take 2) = (bys (by3 V)).take 2 := by simp [bys]
          rw [hB4, hB3]
          exact hb
      · omega
    have hpL : p < L := by have := HP.out; have := HRL.out; omega
    have hpLi : (p : Int) < (L : Int) := by omega
    have hLp : ((L : Int) == (p : Int)) = false := by rw [beq_eq_false_iff_ne]; omega
    have hLp2 : (L == p) = false := by rw [beq_eq_false_iff_ne]; omega
    have hir2 : i < r.length := by omega
    obtain ⟨n, hn⟩ : ∃ n, n = (bt r i).toNat := ⟨_, rfl⟩
    have hn256 : n < 256 := by rw [hn]; exact bt_lt _ _
    have hn256i : (n : Int) < 256 := by omega
    have hc1 : wr.cell? (ad.add p) = some (.int .u8 (n : Nat)) := by
      rw [HP.out, HB.cell (by rw [block_of_add]; exact HADL.out), HCELL.out i hir2, hn]
    obtain ⟨x, hx⟩ : ∃ x, x = f (bt r i) := ⟨_, rfl⟩
    have hc2 : wr.cell? ⟨g, 64 + n, none⟩ = some (.int .u8 (x : Nat)) := by
      rw [HT.out.e.cell, encC_map _ _ _ _ ha hd hn256, hx, HF.out, hn]
    have hn10 : ((n : Int) == 10) = false := by
      rw [beq_eq_false_iff_ne]
      intro h
      refine (HNL.out i hir2).1 (UInt8.toNat_inj.1 ?_)
      rw [← hn]; show n = 10; omega
    have hn13 : ((n : Int) == 13) = false := by
      rw [beq_eq_false_iff_ne]
      intro h
      refine (HNL.out i hir2).2 (UInt8.toNat_inj.1 ?_)
      rw [← hn]; show n = 13; omega
    have hx2 := HF2.out (bt r i)
    rw [← hx] at hx2
    have HN := Lib.hid hn
    have HX := Lib.hid hx
    have HEND := Lib.hid hend
    have HIR := Lib.hid hir2
    clear hn hx hend hir hir2 hi
    rcases hx2 with hx64 | hx255
    · have hxb : ((x : Int) != 255) = true := by rw [bne_iff_ne]; omega
      go_wp2_with ((with_reducible refine st_at (.tmp 63) ?_); refine wpList_put (w0 := wr) rfl rfl (.tmp 63) _ rfl w.heap.size i rfl _ rfl _ HT.out.d (by rw [List.size_toArray, bys_length, dbf_len]; exact HI.out) (World.grownBy.refl _ _) ?_; intro z0 hb0 hg0; have HZ0 := Lib.hid hb0; have HG0 := Lib.hid hg0; clear hb0 hg0)
      go_roundg (4 - (i + 1))
      case measure => have := HK.out; have := HI.out; omega
      case rel =>
        refine ⟨i + 1, p + 1, by have := HK.out; have := HI.out; omega, by have := HIR.out; omega, by go_num, ?_, rfl, rfl, by go_num, ?_, ?_, ?_⟩
        · show _ = _
          have := HP.out; omega
        · intro m hm
          by_cases h : m < i
          · exact HV.out m h
          · obtain rfl : m = i := by omega
            rw [← HX.out]; exact hx64
        · show Tri _ _ _ _ _ _ _
          rw [← dbf_step dm r i HI.out, ← HF.out, ← HX.out]
          exact HT.out.putD HZ0.out HG0.out
        · exact HB.trans (below_of_grown HG0.out (Nat.le_refl _) HB.size)
    · have hc3 : wr.cell? ⟨g, 64 + n, none⟩ = some (.int .u8 255) := by rw [hc2, hx255]; rfl
      have c320 : wr.cell? ⟨g, 320, none⟩ = some (.int .i32 (-1)) := by rw [HT.out.e.cell, encC_padc _ _ _ ha hd]
      have hbad : ¬ f (bt r i) < 64 := by rw [← HX.out]; omega
      clear hc2
      have hm1 : ((n : Int) != -1) = true := by rw [bne_iff_ne]; omega
      have HQ := Lib.hid (q_bad (f := f) (pad := false) i HIR.out HI.out hbad (.inl rfl))
      clear hbad
      go_wp2
      go_ret3
      exact QPost.bad HB (HQ.out) _ _ _ _ rfl
set_option maxRecDepth 100000 in
set_option maxHeartbeats 4000000 in
theorem quantum_pad (w : World) (g gd o s M cD L cS : Nat) (pd : Option Addr) (ad : Addr) (t r al dm : List UInt8) (cs : List Value) (f : UInt8 → Nat) (ha : al.length = 64) (hd : dm.length = 256)
    (hf : ∀ c, f c = (bt dm c.toNat).toNat) (hf2 : ∀ c, f c < 64 ∨ f c = 255) (hf61 : f 61 = 255) (hnl : ∀ c ∈ t, c ≠ 10 ∧ c ≠ 13)
    (hrb : RB w (some ad) L t) (hr : r = t.drop s) (hsL : s < L) (hL : L ≤ 100000) (hne : g ≠ gd)
    (hb : Blk w g 78 (encC al dm 61).toArray) (hbd : Blk w gd 5 cs.toArray) (hpd : 0 < M → pd = some ⟨gd, o, none⟩) (hM4 : 4 ≤ r.length → 3 ≤ M) (hM3 : true = false → r.length = 3 → 2 ≤ M) (hM2 : true = false → r.length = 2 → 1 ≤ M) (hoM : o + M ≤ cs.length) (hcD : M ≤ cD) :
    Calls Tryd.prog 68 #[.pointer (some ⟨g, 0, none⟩), .slice pd M cD, .slice (some ad) L cS, .int .i64 (s : Nat)] w (QPost w gd o s cs f true r) := by
  have hLt := hrb.len
  have hrl : r.length = L - s := by rw [hr, List.length_drop, ← hLt]
  have hbr : ∀ i, bt r i = bt t (s + i) := fun i => by rw [hr, bt_drop]
  have HNL : Hid (∀ i, i < r.length → bt r i ≠ 10 ∧ bt r i ≠ 13) := Lib.hid (fun i hi => by
    have hi2 : s + i < t.length := by omega
    rw [hbr, bt_get _ _ hi2]
    exact hnl _ (List.getElem_mem hi2))
  have HCELL : Hid (∀ i, i < r.length → w.cell? (ad.add (s + i)) = some (.int .u8 (bt r i).toNat)) := Lib.hid (fun i hi => by
    obtain ⟨ad', e, hc⟩ := hrb.bt (k := s + i) (by omega)
    obtain rfl := Option.some.inj e
    rw [hbr]
    exact hc)
  have HADL : Hid (ad.block < w.heap.size) := Lib.hid (by
    obtain ⟨ad', e, hl, _⟩ := hrb.2 (by omega)
    obtain rfl := Option.some.inj e
    exact hl)
  have HRL := Lib.hid hrl
  have HF := Lib.hid hf
  have HF2 := Lib.hid hf2
  have HF61 := Lib.hid hf61
  have HPD := Lib.hid hpd
  have HM := Lib.hid (And.intro hM4 (And.intro hM3 hM2))
  have hTri : Tri w (w.alloc (.cells #[.int .u8 0, .int .u8 0, .int .u8 0, .int .u8 0] 113)) gd g (bys (dbf dm r 0)).toArray cs.toArray (encC al dm 61).toArray :=
    ⟨Blk.new _ _ _, hbd.alloc _, hb.alloc _, World.grownBy_alloc _ _ _, hbd.lt, hb.lt, hne⟩
  have HT0 := Lib.hid hTri
  have hi87 : (Tryd.prog.info? 76).map (·.size) = some (bys dm).length := by rw [bys_length, hd]; kernel_rfl
  have hrange : (w.alloc (.cells #[.int .u8 0, .int .u8 0, .int .u8 0, .int .u8 0] 113)).rangeAt g 64 (bys dm) := fun j v hv => by
    have hj : j < dm.length := by have := (List.getElem?_eq_some_iff.1 hv).1; simpa [bys] using this
    rw [(hb.alloc _).cell, encC_map _ _ _ _ ha hd (by omega), ← hv, bys_get _ _ hj, bt_get _ _ hj]
  have HRG := Lib.hid hrange
  have HI87 := Lib.hid hi87
  have HCS := Lib.hid hoM
  have HBE : Below w.heap.size w (w.alloc (.cells #[.int .u8 0, .int .u8 0, .int .u8 0, .int .u8 0] 113)) := below_alloc' (Below.refl _ _) _
  clear hLt hrl hbr hnl hrb hf hf2 hf61 hr hb hbd hTri hrange hi87 hpd hM4 hM3 hM2 hoM
  go_enter Tryd.func68, Tryd.ntmps68
  go_wp2_with (refine wpList_load_mid rfl 76 _ rfl g 64 rfl (bys dm) _ HRG.out Tryd.underlying76 rfl HI87.out ?_)
  go_loopg [3, 10, 12, 13] 4 (fun k si er dl j wr => ∃ i p : Nat, k + i = 4 ∧ i ≤ r.length ∧ si = .int .i64 (p : Nat) ∧ Hid (p = s + i) ∧ er = .nilIface ∧ dl = .int .i64 4 ∧ j = .int .i64 (i : Nat) ∧ Hid (∀ m, m < i → f (bt r m) < 64) ∧ Hid (Tri w wr gd g (bys (dbf dm r i)).toArray cs.toArray (encC al dm 61).toArray) ∧ Below w.heap.size w wr)
  case atStart => exact ⟨0, s, rfl, Nat.zero_le _, rfl, rfl, rfl, rfl, rfl, (fun m hm => by omega), HT0, HBE⟩
  case round =>
    clear HT0 HRG HI87 HBE
    obtain ⟨i, p, hk, hir, rfl, HP, rfl, rfl, rfl, HV, HT, HB⟩ := hrel
    by_cases hi4 : i = 4
    · subst hi4
      clear hk
      have hM : 4 ≤ M + 1 := (by have := HM.out.1 (by omega); omega)
      obtain rfl := HPD.out (by omega)
      have hM0 : (0 : Int) < (M : Int) := by omega
      have hm1 : (1 : Int) < (M : Int) := by omega
      have hm2 : (2 : Int) < (M : Int) := by omega

      obtain ⟨x0, hx0⟩ : ∃ x, x = (bt (dbf dm r 4) 0).toNat := ⟨_, rfl⟩
      obtain ⟨x1, hx1⟩ : ∃ x, x = (bt (dbf dm r 4) 1).toNat := ⟨_, rfl⟩
      obtain ⟨x2, hx2⟩ : ∃ x, x = (bt (dbf dm r 4) 2).toNat := ⟨_, rfl⟩
      obtain ⟨x3, hx3⟩ : ∃ x, x = (bt (dbf dm r 4) 3).toNat := ⟨_, rfl⟩
      have hxl : ∀ m, m < 4 → (bt (dbf dm r 4) m).toNat < 64 := fun m hm => by
        rw [dbf_at _ _ _ _ hm]
        by_cases hmi : m < 4
        · rw [if_pos hmi]; have := HV.out m hmi; rw [HF.out] at this; exact this
        · rw [if_neg hmi]; decide
      have hl0 : x0 < 64 := by rw [hx0]; exact hxl 0 (by decide)
      have hl1 : x1 < 64 := by rw [hx1]; exact hxl 1 (by decide)
      have hl2 : x2 < 64 := by rw [hx2]; exact hxl 2 (by decide)
      have hl3 : x3 < 64 := by rw [hx3]; exact hxl 3 (by decide)
      have tt := HT.out
      rw [bys4 _ (dbf_len dm r 4), ← hx0, ← hx1, ← hx2, ← hx3] at tt
      have T0 := Lib.hid tt
      clear tt
      have k0 : wr.cell? ⟨w.heap.size, 0, none⟩ = some (.int .u8 (x0 : Nat)) := by rw [T0.out.d.cell]; rfl
      have k1 : wr.cell? ⟨w.heap.size, 1, none⟩ = some (.int .u8 (x1 : Nat)) := by rw [T0.out.d.cell]; rfl
      have k2 : wr.cell? ⟨w.heap.size, 2, none⟩ = some (.int .u8 (x2 : Nat)) := by rw [T0.out.d.cell]; rfl
      have k3 : wr.cell? ⟨w.heap.size, 3, none⟩ = some (.int .u8 (x3 : Nat)) := by rw [T0.out.d.cell]; rfl

      obtain ⟨V, hVd⟩ : ∃ V, V = n4 x0 x1 x2 x3 := ⟨_, rfl⟩
      have hVl : V < 16777216 := by rw [hVd]; unfold n4; omega
      have hV1 := u64_join4 x0 x1 x2 x3 hl0 hl1 hl2 hl3
      rw [← hVd] at hV1
      obtain ⟨y0, hy0⟩ : ∃ y, y = V / 65536 := ⟨_, rfl⟩
      obtain ⟨y1, hy1⟩ : ∃ y, y = V / 256 % 256 := ⟨_, rfl⟩
      obtain ⟨y2, hy2⟩ : ∃ y, y = V % 256 := ⟨_, rfl⟩
      have e0 : (V : Int) / 65536 = (y0 : Nat) := by omega
      have e1 : (V : Int) / 256 % 256 = (y1 : Nat) := by omega
      have e2 : (V : Int) % 256 = (y2 : Nat) := by omega
      have strict : ∀ (W : World) (Y X : Array Value), Tri w W gd g Y X (encC al dm 61).toArray → W.cell? ⟨g, 321, none⟩ = some (.bool false) := fun W Y X h => by rw [h.e.cell, encC_strict _ _ _ ha hd]
      have STR := Lib.hid strict
      have HVD := Lib.hid hVd
      have HY := Lib.hid (And.intro hy0 (And.intro hy1 hy2))
      have HXX := Lib.hid (And.intro hx0 (And.intro hx1 (And.intro hx2 hx3)))
      clear hx0 hx1 hx2 hx3 hVd hy0 hy1 hy2 strict hxl
      go_upto_region 41 with (fail)
      clear k0 k1 k2 k3
      go_wp2_with (first
        | ((with_reducible refine st_at (.tmp 205) ?_); refine wpList_put rfl rfl (.tmp 205) _ rfl (w.heap.size) (2) rfl _ rfl _ T4.out.d (by show _ < 4; decide) (World.grownBy.refl _ _) ?_; intro zz hbz hgz; have T5 := Lib.hid (T4.out.putD hbz hgz); clear hbz hgz; have k51 : zz.cell? ⟨w.heap.size, 1, none⟩ = some (.int .u8 (y1 : Nat)) := (by rw [T5.out.d.cell]; simp [e0, e1, e2]))
        | ((with_reducible refine st_at (.tmp 223) ?_); refine wpList_put rfl rfl (.tmp 223) _ rfl (w.heap.size) (1) rfl _ rfl _ T6.out.d (by show _ < 4; decide) (World.grownBy.refl _ _) ?_; intro zz hbz hgz; have T7 := Lib.hid (T6.out.putD hbz hgz); clear hbz hgz; have k70 : zz.cell? ⟨w.heap.size, 0, none⟩ = some (.int .u8 (y0 : Nat)) := (by rw [T7.out.d.cell]; simp [e0, e1, e2]))
        | ((with_reducible refine st_at (.tmp 191) ?_); refine wpList_put rfl rfl (.tmp 191) _ rfl (w.heap.size) (2) rfl _ rfl _ T0.out.d (by show _ < 4; decide) (World.grownBy.refl _ _) ?_; intro zz hbz hgz; have T1 := Lib.hid (T0.out.putD hbz hgz); clear hbz hgz; skip)
        | ((with_reducible refine st_at (.tmp 192) ?_); refine wpList_put rfl rfl (.tmp 192) _ rfl (w.heap.size) (1) rfl _ rfl _ T1.out.d (by show _ < 4; decide) (World.grownBy.refl _ _) ?_; intro zz hbz hgz; have T2 := Lib.hid (T1.out.putD hbz hgz); clear hbz hgz; skip)
        | ((with_reducible refine st_at (.tmp 193) ?_); refine wpList_put rfl rfl (.tmp 193) _ rfl (w.heap.size) (0) rfl _ rfl _ T2.out.d (by show _ < 4; decide) (World.grownBy.refl _ _) ?_; intro zz hbz hgz; have T3 := Lib.hid (T2.out.putD hbz hgz); clear hbz hgz; have k32 : zz.cell? ⟨w.heap.size, 2, none⟩ = some (.int .u8 (y2 : Nat)) := (by rw [T3.out.d.cell]; simp [e0, e1, e2]))
        | ((with_reducible refine st_at (.tmp 204) ?_); refine wpList_put rfl rfl (.tmp 204) _ rfl (gd) (o + 2) rfl _ rfl _ T3.out.t (by simp only [Array.size_setIfInBounds, List.size_toArray]; have := HCS.out; omega) (World.grownBy.refl _ _) ?_; intro zz hbz hgz; have T4 := Lib.hid (T3.out.putG hbz hgz); clear hbz hgz; clear k32)
        | ((with_reducible refine st_at (.tmp 209) ?_); refine wpList_put rfl rfl (.tmp 209) _ rfl (gd) (o + 1) rfl _ rfl _ T5.out.t (by simp only [Array.size_setIfInBounds, List.size_toArray]; have := HCS.out; omega) (World.grownBy.refl _ _) ?_; intro zz hbz hgz; have T6 := Lib.hid (T5.out.putG hbz hgz); clear hbz hgz; clear k51; have s6 := STR.out zz _ _ T6.out)
        | ((with_reducible refine st_at (.tmp 227) ?_); refine wpList_put rfl rfl (.tmp 227) _ rfl (gd) (o) rfl _ rfl _ T7.out.t (by simp only [Array.size_setIfInBounds, List.size_toArray]; have := HCS.out; omega) (World.grownBy.refl _ _) ?_; intro zz hbz hgz; have T8 := Lib.hid (T7.out.putG hbz hgz); clear hbz hgz; clear k70; have s8 := STR.out zz _ _ T8.out))

      go_ret3
      have hVV : V = n4 (f (bt r 0)) (f (bt r 1)) (f (bt r 2)) (f (bt r 3)) := by rw [HVD.out, HXX.out.1, dbf_in HF.out 0 (by decide) (by decide), HXX.out.2.1, dbf_in HF.out 1 (by decide) (by decide), HXX.out.2.2.1, dbf_in HF.out 2 (by decide) (by decide), HXX.out.2.2.2, dbf_in HF.out 3 (by decide) (by decide)]
      have hb := T8.out.t
      rw [set3 _ _ _ _ _ (by have := HCS.out; omega)] at hb
      refine QPost.ok T8.out.low (by3 V) 4 ?_ (ret3 (by have := HP.out; omega) rfl) ?_
      · rw [hVV]; exact q_4 (by omega) (HV.out 0 (by decide)) (HV.out 1 (by decide)) (HV.out 2 (by decide)) (HV.out 3 (by decide))
      · have hB3 := bys3 V hVl
        rw [← HY.out.1, ← HY.out.2.1, ← HY.out.2.2] at hB3
        rw [hB3]
        exact hb
    have hi : i < 4 := by omega
    have hii : (i : Int) < 4 := by omega
    have HI := Lib.hid hi
    have HK := Lib.hid hk
    clear hi4 hk
    by_cases hend : i = r.length
    · obtain rfl : p = L := by have := HP.out; have := HRL.out; omega
      have hi0 : i ≠ 0 := by have := HRL.out; omega
      clear hir hii
      have HQ := Lib.hid (q_endpad (f := f) (r := r) (by omega))
      have c320 : wr.cell? ⟨g, 320, none⟩ = some (.int .i32 61) := by rw [HT.out.e.cell, encC_padc _ _ _ ha hd]
      have hi00 : ((i : Int) == 0) = false := by rw [beq_eq_false_iff_ne]; omega
      clear hend hi0
      by_cases h1 : i = 1
      · subst h1
        clear hi00
        go_wp2
        go_ret3
        exact QPost.bad HB (HQ.out) _ _ _ _ rfl
      · have hi11 : ((i : Int) == 1) = false := by rw [beq_eq_false_iff_ne]; omega
        have H1 := Lib.hid h1
        clear h1
        have hI := HI.out
        go_wp2
        go_ret3
        exact QPost.bad HB (HQ.out) _ _ _ _ rfl
    have hpL : p < L := by have := HP.out; have := HRL.out; omega
    have hpLi : (p : Int) < (L : Int) := by omega
    have hLp : ((L : Int) == (p : Int)) = false := by rw [beq_eq_false_iff_ne]; omega
    have hLp2 : (L == p) = false := by rw [beq_eq_false_iff_ne]; omega
    have hir2 : i < r.length := by omega
    obtain ⟨n, hn⟩ : ∃ n, n = (bt r i).toNat := ⟨_, rfl⟩
    have hn256 : n < 256 := by rw [hn]; exact bt_lt _ _
    have hn256i : (n : Int) < 256 := by omega
    have hc1 : wr.cell? (ad.add p) = some (.int .u8 (n : Nat)) := by
      rw [HP.out, HB.cell (by rw [block_of_add]; exact HADL.out), HCELL.out i hir2, hn]
    obtain ⟨x, hx⟩ : ∃ x, x = f (bt r i) := ⟨_, rfl⟩
    have hc2 : wr.cell? ⟨g, 64 + n, none⟩ = some (.int .u8 (x : Nat)) := by
      rw [HT.out.e.cell, encC_map _ _ _ _ ha hd hn256, hx, HF.out, hn]
    have hn10 : ((n : Int) == 10) = false := by
      rw [beq_eq_false_iff_ne]
      intro h
      refine (HNL.out i hir2).1 (UInt8.toNat_inj.1 ?_)
      rw [← hn]; show n = 10; omega
    have hn13 : ((n : Int) == 13) = false := by
      rw [beq_eq_false_iff_ne]
      intro h
      refine (HNL.out i hir2).2 (UInt8.toNat_inj.1 ?_)
      rw [← hn]; show n = 13; omega
    have hx2 := HF2.out (bt r i)
    rw [← hx] at hx2
    have HN := Lib.hid hn
    have HX := Lib.hid hx
    have HEND := Lib.hid hend
    have HIR := Lib.hid hir2
    clear hn hx hend hir hir2 hi
    rcases hx2 with hx64 | hx255
    · have hxb : ((x : Int) != 255) = true := by rw [bne_iff_ne]; omega
      go_wp2_with ((with_reducible refine st_at (.tmp 63) ?_); refine wpList_put (w0 := wr) rfl rfl (.tmp 63) _ rfl w.heap.size i rfl _ rfl _ HT.out.d (by rw [List.size_toArray, bys_length, dbf_len]; exact HI.out) (World.grownBy.refl _ _) ?_; intro z0 hb0 hg0; have HZ0 := Lib.hid hb0; have HG0 := Lib.hid hg0; clear hb0 hg0)
      go_roundg (4 - (i + 1))
      case measure => have := HK.out; have := HI.out; omega
      case rel =>
        refine ⟨i + 1, p + 1, by have := HK.out; have := HI.out; omega, by have := HIR.out; omega, by go_num, ?_, rfl, rfl, by go_num, ?_, ?_, ?_⟩
        · show _ = _
          have := HP.out; omega
        · intro m hm
          by_cases h : m < i
          · exact HV.out m h
          · obtain rfl : m = i := by omega
            rw [← HX.out]; exact hx64
        · show Tri _ _ _ _ _ _ _
          rw [← dbf_step dm r i HI.out, ← HF.out, ← HX.out]
          exact HT.out.putD HZ0.out HG0.out
        · exact HB.trans (below_of_grown HG0.out (Nat.le_refl _) HB.size)
    · have hc3 : wr.cell? ⟨g, 64 + n, none⟩ = some (.int .u8 255) := by rw [hc2, hx255]; rfl
      have c320 : wr.cell? ⟨g, 320, none⟩ = some (.int .i32 61) := by rw [HT.out.e.cell, encC_padc _ _ _ ha hd]
      have hbad : ¬ f (bt r i) < 64 := by rw [← HX.out]; omega
      clear hc2
      by_cases hn61 : n = 61
      · subst hn61
        have hb61 : bt r i = 61 := UInt8.toNat_inj.1 HN.out.symm
        have HB61 := Lib.hid hb61
        have hc1' : wr.cell? (ad.add p) = some (.int .u8 61) := hc1
        have hc3' : wr.cell? ⟨g, 125, none⟩ = some (.int .u8 255) := hc3
        clear hb61 hc1 hc3 hn10 hn13 hn256 hn256i
        by_cases h0 : i = 0
        · subst h0
          have HQ := Lib.hid (q_bad (f := f) (pad := true) 0 HIR.out HI.out hbad (.inr (.inr (by decide))))
          clear hbad
          go_wp2
          go_ret3
          exact QPost.bad HB (HQ.out) _ _ _ _ rfl
        by_cases h1 : i = 1
        · subst h1
          have HQ := Lib.hid (q_bad (f := f) (pad := true) 1 HIR.out HI.out hbad (.inr (.inr (by decide))))
          clear hbad
          go_wp2
          go_ret3
          exact QPost.bad HB (HQ.out) _ _ _ _ rfl
        have hrL : r.length = L - s := HRL.out
        have hps : p = s + i := HP.out
        have hil : i < r.length := HIR.out
        by_cases h2 : i = 2
        · subst h2
          clear hbad h0 h1
          by_cases h3 : r.length = 3
          · have HQ := Lib.hid (q_endpad (f := f) (r := r) (by omega))
            obtain rfl : L = p + 1 := by omega
            clear hrL hps hil h3
            go_wp2
            refine wp_loop_rounds 1 ?_
            rw [rounds_succ]
            go_wp2
            go_ret3
            exact QPost.bad HB (HQ.out) _ _ _ _ rfl
          · have hr4 : 4 ≤ r.length := by omega
            clear h3
            have hq1 : p + 1 < L := by omega
            have hq1i : (p : Int) + 1 < (L : Int) := by omega
            have hq1b : ((p : Int) + 1 == (L : Int)) = false := by rw [beq_eq_false_iff_ne]; omega
            obtain ⟨c3, hc3⟩ : ∃ n, n = (bt r 3).toNat := ⟨_, rfl⟩
            have c3c : wr.cell? (ad.add (p + 1)) = some (.int .u8 (c3 : Nat)) := by
              rw [show p + 1 = s + 3 by have := HP.out; omega, HB.cell (by rw [block_of_add]; exact HADL.out), HCELL.out 3 (by omega), hc3]
            have c3d : wr.cell? ⟨ad.block, ad.off + (p + 1), none⟩ = some (.int .u8 (c3 : Nat)) := by simpa [Addr.add] using c3c
            have c310 : ((c3 : Int) == 10) = false := by
              rw [beq_eq_false_iff_ne]
              intro h
              refine (HNL.out 3 (by omega)).1 (UInt8.toNat_inj.1 ?_)
              rw [← hc3]; show c3 = 10; omega
            have c313 : ((c3 : Int) == 13) = false := by
              rw [beq_eq_false_iff_ne]
              intro h
              refine (HNL.out 3 (by omega)).2 (UInt8.toNat_inj.1 ?_)
              rw [← hc3]; show c3 = 13; omega
            have Hc3 := Lib.hid hc3
            clear hc3
            by_cases hc61 : c3 = 61
            · have hb3 : bt r 3 = 61 := UInt8.toNat_inj.1 (by rw [← Hc3.out, hc61]; rfl)
              have c3d' : wr.cell? ⟨ad.block, ad.off + (p + 1), none⟩ = some (.int .u8 61) := by rw [c3d, hc61]; rfl
              clear c3c c3d c310 c313 hc61 Hc3
              by_cases h4 : r.length = 4
              · have HQ := Lib.hid (q_pad2 (f := f) h4 HF61.out (HV.out 0 (by decide)) (HV.out 1 (by decide)) HB61.out hb3)
                obtain rfl : L = p + 2 := by omega
                have HRR := Lib.hid hr4
                clear hrL hps hil h4 hb3 hr4
                go_wp2
                refine wp_loop_rounds 1 ?_
                rw [rounds_succ]
                go_wp2
                go_quiet (fail)
                go_wp2
                refine wp_loop_rounds 1 ?_
                rw [rounds_succ]
                have HTQ := Lib.hid (HT.out.drewN nq)
                have hM : 2 ≤ M + 1 := (by have h := HM.out.1 HRR.out; omega)
                obtain rfl := HPD.out (by omega)
                have hM0 : (0 : Int) < (M : Int) := by omega

                obtain ⟨x0, hx0⟩ : ∃ x, x = (bt (dbf dm r 2) 0).toNat := ⟨_, rfl⟩
                obtain ⟨x1, hx1⟩ : ∃ x, x = (bt (dbf dm r 2) 1).toNat := ⟨_, rfl⟩
                obtain ⟨x2, hx2⟩ : ∃ x, x = (bt (dbf dm r 2) 2).toNat := ⟨_, rfl⟩
                obtain ⟨x3, hx3⟩ : ∃ x, x = (bt (dbf dm r 2) 3).toNat := ⟨_, rfl⟩
                have hxl : ∀ m, m < 4 → (bt (dbf dm r 2) m).toNat < 64 := fun m hm => by
                  rw [dbf_at _ _ _ _ hm]
                  by_cases hmi : m < 2
                  · rw [if_pos hmi]; have := HV.out m hmi; rw [HF.out] at this; exact this
                  · rw [if_neg hmi]; decide
                have hl0 : x0 < 64 := by rw [hx0]; exact hxl 0 (by decide)
                have hl1 : x1 < 64 := by rw [hx1]; exact hxl 1 (by decide)
                have hl2 : x2 < 64 := by rw [hx2]; exact hxl 2 (by decide)
                have hl3 : x3 < 64 := by rw [hx3]; exact hxl 3 (by decide)
                have tt := HTQ.out
                rw [bys4 _ (dbf_len dm r 2), ← hx0, ← hx1, ← hx2, ← hx3] at tt
                have T0 := Lib.hid tt
                clear tt
                have k0 : (wr.drewN nq).cell? ⟨w.heap.size, 0, none⟩ = some (.int .u8 (x0 : Nat)) := by rw [T0.out.d.cell]; rfl
                have k1 : (wr.drewN nq).cell? ⟨w.heap.size, 1, none⟩ = some (.int .u8 (x1 : Nat)) := by rw [T0.out.d.cell]; rfl
                have k2 : (wr.drewN nq).cell? ⟨w.heap.size, 2, none⟩ = some (.int .u8 (x2 : Nat)) := by rw [T0.out.d.cell]; rfl
                have k3 : (wr.drewN nq).cell? ⟨w.heap.size, 3, none⟩ = some (.int .u8 (x3 : Nat)) := by rw [T0.out.d.cell]; rfl

                obtain ⟨V, hVd⟩ : ∃ V, V = n4 x0 x1 x2 x3 := ⟨_, rfl⟩
                have hVl : V < 16777216 := by rw [hVd]; unfold n4; omega
                have hV1 := u64_join4 x0 x1 x2 x3 hl0 hl1 hl2 hl3
                rw [← hVd] at hV1
                obtain ⟨y0, hy0⟩ : ∃ y, y = V / 65536 := ⟨_, rfl⟩
                obtain ⟨y1, hy1⟩ : ∃ y, y = V / 256 % 256 := ⟨_, rfl⟩
                obtain ⟨y2, hy2⟩ : ∃ y, y = V % 256 := ⟨_, rfl⟩
                have e0 : (V : Int) / 65536 = (y0 : Nat) := by omega
                have e1 : (V : Int) / 256 % 256 = (y1 : Nat) := by omega
                have e2 : (V : Int) % 256 = (y2 : Nat) := by omega
                have strict : ∀ (W : World) (Y X : Array Value), Tri w W gd g Y X (encC al dm 61).toArray → W.cell? ⟨g, 321, none⟩ = some (.bool false) := fun W Y X h => by rw [h.e.cell, encC_strict _ _ _ ha hd]
                have STR := Lib.hid strict
                have HVD := Lib.hid hVd
                have HY := Lib.hid (And.intro hy0 (And.intro hy1 hy2))
                have HXX := Lib.hid (And.intro hx0 (And.intro hx1 (And.intro hx2 hx3)))
                clear hx0 hx1 hx2 hx3 hVd hy0 hy1 hy2 strict hxl
                go_upto_region 41 with (fail)
                clear k0 k1 k2 k3
                go_wp2_with (first
                  | ((with_reducible refine st_at (.tmp 191) ?_); refine wpList_put rfl rfl (.tmp 191) _ rfl (w.heap.size) (2) rfl _ rfl _ T0.out.d (by show _ < 4; decide) (World.grownBy.refl _ _) ?_; intro zz hbz hgz; have T1 := Lib.hid (T0.out.putD hbz hgz); clear hbz hgz; skip)
                  | ((with_reducible refine st_at (.tmp 192) ?_); refine wpList_put rfl rfl (.tmp 192) _ rfl (w.heap.size) (1) rfl _ rfl _ T1.out.d (by show _ < 4; decide) (World.grownBy.refl _ _) ?_; intro zz hbz hgz; have T2 := Lib.hid (T1.out.putD hbz hgz); clear hbz hgz; skip)
                  | ((with_reducible refine st_at (.tmp 193) ?_); refine wpList_put rfl rfl (.tmp 193) _ rfl (w.heap.size) (0) rfl _ rfl _ T2.out.d (by show _ < 4; decide) (World.grownBy.refl _ _) ?_; intro zz hbz hgz; have T3 := Lib.hid (T2.out.putD hbz hgz); clear hbz hgz; have k30 : zz.cell? ⟨w.heap.size, 0, none⟩ = some (.int .u8 (y0 : Nat)) := (by rw [T3.out.d.cell]; simp [e0, e1, e2]))
                  | ((with_reducible refine st_at (.tmp 227) ?_); refine wpList_put rfl rfl (.tmp 227) _ rfl (gd) (o) rfl _ rfl _ T3.out.t (by simp only [Array.size_setIfInBounds, List.size_toArray]; have := HCS.out; omega) (World.grownBy.refl _ _) ?_; intro zz hbz hgz; have T8 := Lib.hid (T3.out.putG hbz hgz); clear hbz hgz; clear k30; have s8 := STR.out zz _ _ T8.out))

                go_ret3
                have hVV : V = n4 (f (bt r 0)) (f (bt r 1)) (0) (0) := by rw [HVD.out, HXX.out.1, dbf_in HF.out 0 (by decide) (by decide), HXX.out.2.1, dbf_in HF.out 1 (by decide) (by decide), HXX.out.2.2.1, dbf_out 2 (by decide) (by decide), HXX.out.2.2.2, dbf_out 3 (by decide) (by decide)]
                have hb := T8.out.t
                rw [set1 _ _ _ (by have := HCS.out; omega)] at hb
                refine QPost.ok T8.out.low ((by3 V).take 1) 4 ?_ (ret3 (by have := HP.out; omega) rfl) ?_
                · rw [hVV]; exact HQ.out
                · have hB3 := bys3 V hVl
                  rw [← HY.out.1, ← HY.out.2.1, ← HY.out.2.2] at hB3
                  have hB4 : bys ((by3 V).take 1) = (bys (by3 V)).take 1 := by simp [bys]
                  rw [hB4, hB3]
                  exact hb
              · have h5 : 4 < r.length := by omega
                have HQ := Lib.hid (q_pad2bad (f := f) hr4 HF61.out HB61.out (.inr h5))
                have hq2 : p + 2 < L := by omega
                have hq2i : (p : Int) + 1 + 1 < (L : Int) := by omega
                obtain ⟨c4, hc4⟩ : ∃ n, n = (bt r 4).toNat := ⟨_, rfl⟩
                have c4c : wr.cell? (ad.add (p + 2)) = some (.int .u8 (c4 : Nat)) := by
                  rw [show p + 2 = s + 4 by have := HP.out; omega, HB.cell (by rw [block_of_add]; exact HADL.out), HCELL.out 4 (by omega), hc4]
                have c4d : wr.cell? ⟨ad.block, ad.off + (p + 2), none⟩ = some (.int .u8 (c4 : Nat)) := by simpa [Addr.add] using c4c
                have c410 : ((c4 : Int) == 10) = false := by
                  rw [beq_eq_false_iff_ne]
                  intro h
                  refine (HNL.out 4 (by omega)).1 (UInt8.toNat_inj.1 ?_)
                  rw [← hc4]; show c4 = 10; omega
                have c413 : ((c4 : Int) == 13) = false := by
                  rw [beq_eq_false_iff_ne]
                  intro h
                  refine (HNL.out 4 (by omega)).2 (UInt8.toNat_inj.1 ?_)
                  rw [← hc4]; show c4 = 13; omega
                have Hc4 := Lib.hid hc4
                clear hc4
                have HRR := Lib.hid hr4
                clear hrL hps hil h4 hb3 h5 hr4
                go_wp2
                refine wp_loop_rounds 1 ?_
                rw [rounds_succ]
                go_wp2
                go_quiet (fail)
                go_wp2
                refine wp_loop_rounds 1 ?_
                rw [rounds_succ]
                have HTQ := Lib.hid (HT.out.drewN nq)
                have hM : 2 ≤ M + 1 := (by have h := HM.out.1 HRR.out; omega)
                obtain rfl := HPD.out (by omega)
                have hM0 : (0 : Int) < (M : Int) := by omega

                obtain ⟨x0, hx0⟩ : ∃ x, x = (bt (dbf dm r 2) 0).toNat := ⟨_, rfl⟩
                obtain ⟨x1, hx1⟩ : ∃ x, x = (bt (dbf dm r 2) 1).toNat := ⟨_, rfl⟩
                obtain ⟨x2, hx2⟩ : ∃ x, x = (bt (dbf dm r 2) 2).toNat := ⟨_, rfl⟩
                obtain ⟨x3, hx3⟩ : ∃ x, x = (bt (dbf dm r 2) 3).toNat := ⟨_, rfl⟩
                have hxl : ∀ m, m < 4 → (bt (dbf dm r 2) m).toNat < 64 := fun m hm => by
                  rw [dbf_at _ _ _ _ hm]
                  by_cases hmi : m < 2
                  · rw [if_pos hmi]; have := HV.out m hmi; rw [HF.out] at this; exact this
                  · rw [if_neg hmi]; decide
                have hl0 : x0 < 64 := by rw [hx0]; exact hxl 0 (by decide)
                have hl1 : x1 < 64 := by rw [hx1]; exact hxl 1 (by decide)
                have hl2 : x2 < 64 := by rw [hx2]; exact hxl 2 (by decide)
                have hl3 : x3 < 64 := by rw [hx3]; exact hxl 3 (by decide)
                have tt := HTQ.out
                rw [bys4 _ (dbf_len dm r 2), ← hx0, ← hx1, ← hx2, ← hx3] at tt
                have T0 := Lib.hid tt
                clear tt
                have k0 : (wr.drewN nq).cell? ⟨w.heap.size, 0, none⟩ = some (.int .u8 (x0 : Nat)) := by rw [T0.out.d.cell]; rfl
                have k1 : (wr.drewN nq).cell? ⟨w.heap.size, 1, none⟩ = some (.int .u8 (x1 : Nat)) := by rw [T0.out.d.cell]; rfl
                have k2 : (wr.drewN nq).cell? ⟨w.heap.size, 2, none⟩ = some (.int .u8 (x2 : Nat)) := by rw [T0.out.d.cell]; rfl
                have k3 : (wr.drewN nq).cell? ⟨w.heap.size, 3, none⟩ = some (.int .u8 (x3 : Nat)) := by rw [T0.out.d.cell]; rfl

                obtain ⟨V, hVd⟩ : ∃ V, V = n4 x0 x1 x2 x3 := ⟨_, rfl⟩
                have hVl : V < 16777216 := by rw [hVd]; unfold n4; omega
                have hV1 := u64_join4 x0 x1 x2 x3 hl0 hl1 hl2 hl3
                rw [← hVd] at hV1
                obtain ⟨y0, hy0⟩ : ∃ y, y = V / 65536 := ⟨_, rfl⟩
                obtain ⟨y1, hy1⟩ : ∃ y, y = V / 256 % 256 := ⟨_, rfl⟩
                obtain ⟨y2, hy2⟩ : ∃ y, y = V % 256 := ⟨_, rfl⟩
                have e0 : (V : Int) / 65536 = (y0 : Nat) := by omega
                have e1 : (V : Int) / 256 % 256 = (y1 : Nat) := by omega
                have e2 : (V : Int) % 256 = (y2 : Nat) := by omega
                have strict : ∀ (W : World) (Y X : Array Value), Tri w W gd g Y X (encC al dm 61).toArray → W.cell? ⟨g, 321, none⟩ = some (.bool false) := fun W Y X h => by rw [h.e.cell, encC_strict _ _ _ ha hd]
                have STR := Lib.hid strict
                have HVD := Lib.hid hVd
                have HY := Lib.hid (And.intro hy0 (And.intro hy1 hy2))
                have HXX := Lib.hid (And.intro hx0 (And.intro hx1 (And.intro hx2 hx3)))
                clear hx0 hx1 hx2 hx3 hVd hy0 hy1 hy2 strict hxl
                go_upto_region 41 with (fail)
                clear k0 k1 k2 k3
                go_wp2_with (first
                  | ((with_reducible refine st_at (.tmp 191) ?_); refine wpList_put rfl rfl (.tmp 191) _ rfl (w.heap.size) (2) rfl _ rfl _ T0.out.d (by show _ < 4; decide) (World.grownBy.refl _ _) ?_; intro zz hbz hgz; have T1 := Lib.hid (T0.out.putD hbz hgz); clear hbz hgz; skip)
                  | ((with_reducible refine st_at (.tmp 192) ?_); refine wpList_put rfl rfl (.tmp 192) _ rfl (w.heap.size) (1) rfl _ rfl _ T1.out.d (by show _ < 4; decide) (World.grownBy.refl _ _) ?_; intro zz hbz hgz; have T2 := Lib.hid (T1.out.putD hbz hgz); clear hbz hgz; skip)
                  | ((with_reducible refine st_at (.tmp 193) ?_); refine wpList_put rfl rfl (.tmp 193) _ rfl (w.heap.size) (0) rfl _ rfl _ T2.out.d (by show _ < 4; decide) (World.grownBy.refl _ _) ?_; intro zz hbz hgz; have T3 := Lib.hid (T2.out.putD hbz hgz); clear hbz hgz; have k30 : zz.cell? ⟨w.heap.size, 0, none⟩ = some (.int .u8 (y0 : Nat)) := (by rw [T3.out.d.cell]; simp [e0, e1, e2]))
                  | ((with_reducible refine st_at (.tmp 227) ?_); refine wpList_put rfl rfl (.tmp 227) _ rfl (gd) (o) rfl _ rfl _ T3.out.t (by simp only [Array.size_setIfInBounds, List.size_toArray]; have := HCS.out; omega) (World.grownBy.refl _ _) ?_; intro zz hbz hgz; have T8 := Lib.hid (T3.out.putG hbz hgz); clear hbz hgz; clear k30; have s8 := STR.out zz _ _ T8.out))
                go_ret3
                exact QPost.bad' T8.out.low HQ.out _ _ _ _ rfl
            · have hm1 : ((c3 : Int) != 61) = true := by rw [bne_iff_ne]; omega
              have HQ := Lib.hid (q_pad2bad (f := f) hr4 HF61.out HB61.out (.inl (fun h => hc61 (by rw [Hc3.out, h]; rfl))))
              have hc3l : c3 < 256 := by rw [Hc3.out]; exact bt_lt _ _
              have hc3w : IntKind.i32.wrap (c3 : Int) = (c3 : Int) := by
                simp [IntKind.wrap, IntKind.bits, IntKind.signed]
                omega
              clear hrL hps hil hr4 hc61
              go_wp2
              refine wp_loop_rounds 1 ?_
              rw [rounds_succ]
              go_wp2
              go_quiet (fail)
              go_wp2
              go_ret3
              exact QPost.bad (K.below_drewN HB nq) (HQ.out) _ _ _ _ rfl
        · obtain rfl : i = 3 := by have := HI.out; omega
          clear hbad h0 h1 h2
          by_cases h4 : r.length = 4
          · have HQ := Lib.hid (q_pad3 (f := f) h4 HF61.out (HV.out 0 (by decide)) (HV.out 1 (by decide)) (HV.out 2 (by decide)) HB61.out)
            obtain rfl : L = p + 1 := by omega
            have HRR := Lib.hid h4
            clear hrL hps hil h4
            go_wp2
            refine wp_loop_rounds 1 ?_
            rw [rounds_succ]
            have hM : 3 ≤ M + 1 := (by have h := HM.out.1 (by rw [HRR.out]; decide); omega)
            obtain rfl := HPD.out (by omega)
            have hM0 : (0 : Int) < (M : Int) := by omega
            have hm1 : (1 : Int) < (M : Int) := by omega

            obtain ⟨x0, hx0⟩ : ∃ x, x = (bt (dbf dm r 3) 0).toNat := ⟨_, rfl⟩
            obtain ⟨x1, hx1⟩ : ∃ x, x = (bt (dbf dm r 3) 1).toNat := ⟨_, rfl⟩
            obtain ⟨x2, hx2⟩ : ∃ x, x = (bt (dbf dm r 3) 2).toNat := ⟨_, rfl⟩
            obtain ⟨x3, hx3⟩ : ∃ x, x = (bt (dbf dm r 3) 3).toNat := ⟨_, rfl⟩
            have hxl : ∀ m, m < 4 → (bt (dbf dm r 3) m).toNat < 64 := fun m hm => by
              rw [dbf_at _ _ _ _ hm]
              by_cases hmi : m < 3
              · rw [if_pos hmi]; have := HV.out m hmi; rw [HF.out] at this; exact this
              · rw [if_neg hmi]; decide
            have hl0 : x0 < 64 := by rw [hx0]; exact hxl 0 (by decide)
            have hl1 : x1 < 64 := by rw [hx1]; exact hxl 1 (by decide)
            have hl2 : x2 < 64 := by rw [hx2]; exact hxl 2 (by decide)
            have hl3 : x3 < 64 := by rw [hx3]; exact hxl 3 (by decide)
            have tt := HT.out
            rw [bys4 _ (dbf_len dm r 3), ← hx0, ← hx1, ← hx2, ← hx3] at tt
            have T0 := Lib.hid tt
            clear tt
            have k0 : wr.cell? ⟨w.heap.size, 0, none⟩ = some (.int .u8 (x0 : Nat)) := by rw [T0.out.d.cell]; rfl
            have k1 : wr.cell? ⟨w.heap.size, 1, none⟩ = some (.int .u8 (x1 : Nat)) := by rw [T0.out.d.cell]; rfl
            have k2 : wr.cell? ⟨w.heap.size, 2, none⟩ = some (.int .u8 (x2 : Nat)) := by rw [T0.out.d.cell]; rfl
            have k3 : wr.cell? ⟨w.heap.size, 3, none⟩ = some (.int .u8 (x3 : Nat)) := by rw [T0.out.d.cell]; rfl

            obtain ⟨V, hVd⟩ : ∃ V, V = n4 x0 x1 x2 x3 := ⟨_, rfl⟩
            have hVl : V < 16777216 := by rw [hVd]; unfold n4; omega
            have hV1 := u64_join4 x0 x1 x2 x3 hl0 hl1 hl2 hl3
            rw [← hVd] at hV1
            obtain ⟨y0, hy0⟩ : ∃ y, y = V / 65536 := ⟨_, rfl⟩
            obtain ⟨y1, hy1⟩ : ∃ y, y = V / 256 % 256 := ⟨_, rfl⟩
            obtain ⟨y2, hy2⟩ : ∃ y, y = V % 256 := ⟨_, rfl⟩
            have e0 : (V : Int) / 65536 = (y0 : Nat) := by omega
            have e1 : (V : Int) / 256 % 256 = (y1 : Nat) := by omega
            have e2 : (V : Int) % 256 = (y2 : Nat) := by omega
            have strict : ∀ (W : World) (Y X : Array Value), Tri w W gd g Y X (encC al dm 61).toArray → W.cell? ⟨g, 321, none⟩ = some (.bool false) := fun W Y X h => by rw [h.e.cell, encC_strict _ _ _ ha hd]
            have STR := Lib.hid strict
            have HVD := Lib.hid hVd
            have HY := Lib.hid (And.intro hy0 (And.intro hy1 hy2))
            have HXX := Lib.hid (And.intro hx0 (And.intro hx1 (And.intro hx2 hx3)))
            clear hx0 hx1 hx2 hx3 hVd hy0 hy1 hy2 strict hxl
            go_upto_region 41 with (fail)
            clear k0 k1 k2 k3
            go_wp2_with (first
              | ((with_reducible refine st_at (.tmp 223) ?_); refine wpList_put rfl rfl (.tmp 223) _ rfl (w.heap.size) (1) rfl _ rfl _ T6.out.d (by show _ < 4; decide) (World.grownBy.refl _ _) ?_; intro zz hbz hgz; have T7 := Lib.hid (T6.out.putD hbz hgz); clear hbz hgz; have k70 : zz.cell? ⟨w.heap.size, 0, none⟩ = some (.int .u8 (y0 : Nat)) := (by rw [T7.out.d.cell]; simp [e0, e1, e2]))
              | ((with_reducible refine st_at (.tmp 191) ?_); refine wpList_put rfl rfl (.tmp 191) _ rfl (w.heap.size) (2) rfl _ rfl _ T0.out.d (by show _ < 4; decide) (World.grownBy.refl _ _) ?_; intro zz hbz hgz; have T1 := Lib.hid (T0.out.putD hbz hgz); clear hbz hgz; skip)
              | ((with_reducible refine st_at (.tmp 192) ?_); refine wpList_put rfl rfl (.tmp 192) _ rfl (w.heap.size) (1) rfl _ rfl _ T1.out.d (by show _ < 4; decide) (World.grownBy.refl _ _) ?_; intro zz hbz hgz; have T2 := Lib.hid (T1.out.putD hbz hgz); clear hbz hgz; skip)
              | ((with_reducible refine st_at (.tmp 193) ?_); refine wpList_put rfl rfl (.tmp 193) _ rfl (w.heap.size) (0) rfl _ rfl _ T2.out.d (by show _ < 4; decide) (World.grownBy.refl _ _) ?_; intro zz hbz hgz; have T3 := Lib.hid (T2.out.putD hbz hgz); clear hbz hgz; have k31 : zz.cell? ⟨w.heap.size, 1, none⟩ = some (.int .u8 (y1 : Nat)) := (by rw [T3.out.d.cell]; simp [e0, e1, e2]))
              | ((with_reducible refine st_at (.tmp 209) ?_); refine wpList_put rfl rfl (.tmp 209) _ rfl (gd) (o + 1) rfl _ rfl _ T3.out.t (by simp only [Array.size_setIfInBounds, List.size_toArray]; have := HCS.out; omega) (World.grownBy.refl _ _) ?_; intro zz hbz hgz; have T6 := Lib.hid (T3.out.putG hbz hgz); clear hbz hgz; clear k31; have s6 := STR.out zz _ _ T6.out)
              | ((with_reducible refine st_at (.tmp 227) ?_); refine wpList_put rfl rfl (.tmp 227) _ rfl (gd) (o) rfl _ rfl _ T7.out.t (by simp only [Array.size_setIfInBounds, List.size_toArray]; have := HCS.out; omega) (World.grownBy.refl _ _) ?_; intro zz hbz hgz; have T8 := Lib.hid (T7.out.putG hbz hgz); clear hbz hgz; clear k70; have s8 := STR.out zz _ _ T8.out))

            go_ret3
            have hVV : V = n4 (f (bt r 0)) (f (bt r 1)) (f (bt r 2)) (0) := by rw [HVD.out, HXX.out.1, dbf_in HF.out 0 (by decide) (by decide), HXX.out.2.1, dbf_in HF.out 1 (by decide) (by decide), HXX.out.2.2.1, dbf_in HF.out 2 (by decide) (by decide), HXX.out.2.2.2, dbf_out 3 (by decide) (by decide)]
            have hb := T8.out.t
            rw [set2 _ _ _ _ (by have := HCS.out; omega)] at hb
            refine QPost.ok T8.out.low ((by3 V).take 2) 4 ?_ (ret3 (by have := HP.out; omega) rfl) ?_
            · rw [hVV]; exact HQ.out
            · have hB3 := bys3 V hVl
              rw [← HY.out.1, ← HY.out.2.1, ← HY.out.2.2] at hB3
              have hB4 : bys ((by3 V).take 2) = (bys (by3 V)).take 2 := by simp [bys]
              rw [hB4, hB3]
              exact hb
          · have h5 : 4 < r.length := by omega
            have HQ := Lib.hid (q_pad3bad (f := f) h5 HF61.out HB61.out)
            have hq1 : p + 1 < L := by omega
            have hq1i : (p : Int) + 1 < (L : Int) := by omega
            obtain ⟨c4, hc4⟩ : ∃ n, n = (bt r 4).toNat := ⟨_, rfl⟩
            have c4c : wr.cell? (ad.add (p + 1)) = some (.int .u8 (c4 : Nat)) := by
              rw [show p + 1 = s + 4 by have := HP.out; omega, HB.cell (by rw [block_of_add]; exact HADL.out), HCELL.out 4 (by omega), hc4]
            have c4d : wr.cell? ⟨ad.block, ad.off + (p + 1), none⟩ = some (.int .u8 (c4 : Nat)) := by simpa [Addr.add] using c4c
            have c410 : ((c4 : Int) == 10) = false := by
              rw [beq_eq_false_iff_ne]
              intro h
              refine (HNL.out 4 (by omega)).1 (UInt8.toNat_inj.1 ?_)
              rw [← hc4]; show c4 = 10; omega
            have c413 : ((c4 : Int) == 13) = false := by
              rw [beq_eq_false_iff_ne]
              intro h
              refine (HNL.out 4 (by omega)).2 (UInt8.toNat_inj.1 ?_)
              rw [← hc4]; show c4 = 13; omega
            have Hc4 := Lib.hid hc4
            clear hc4
            have HRR := Lib.hid h5
            clear hrL hps hil h4 h5
            go_wp2
            refine wp_loop_rounds 1 ?_
            rw [rounds_succ]
            have hM : 3 ≤ M + 1 := (by have h := HM.out.1 (by have := HRR.out; omega); omega)
            obtain rfl := HPD.out (by omega)
            have hM0 : (0 : Int) < (M : Int) := by omega
            have hm1 : (1 : Int) < (M : Int) := by omega

            obtain ⟨x0, hx0⟩ : ∃ x, x = (bt (dbf dm r 3) 0).toNat := ⟨_, rfl⟩
            obtain ⟨x1, hx1⟩ : ∃ x, x = (bt (dbf dm r 3) 1).toNat := ⟨_, rfl⟩
            obtain ⟨x2, hx2⟩ : ∃ x, x = (bt (dbf dm r 3) 2).toNat := ⟨_, rfl⟩
            obtain ⟨x3, hx3⟩ : ∃ x, x = (bt (dbf dm r 3) 3).toNat := ⟨_, rfl⟩
            have hxl : ∀ m, m < 4 → (bt (dbf dm r 3) m).toNat < 64 := fun m hm => by
              rw [dbf_at _ _ _ _ hm]
              by_cases hmi : m < 3
              · rw [if_pos hmi]; have := HV.out m hmi; rw [HF.out] at this; exact this
              · rw [if_neg hmi]; decide
            have hl0 : x0 < 64 := by rw [hx0]; exact hxl 0 (by decide)
            have hl1 : x1 < 64 := by rw [hx1]; exact hxl 1 (by decide)
            have hl2 : x2 < 64 := by rw [hx2]; exact hxl 2 (by decide)
            have hl3 : x3 < 64 := by rw [hx3]; exact hxl 3 (by decide)
            have tt := HT.out
            rw [bys4 _ (dbf_len dm r 3), ← hx0, ← hx1, ← hx2, ← hx3] at tt
            have T0 := Lib.hid tt
            clear tt
            have k0 : wr.cell? ⟨w.heap.size, 0, none⟩ = some (.int .u8 (x0 : Nat)) := by rw [T0.out.d.cell]; rfl
            have k1 : wr.cell? ⟨w.heap.size, 1, none⟩ = some (.int .u8 (x1 : Nat)) := by rw [T0.out.d.cell]; rfl
            have k2 : wr.cell? ⟨w.heap.size, 2, none⟩ = some (.int .u8 (x2 : Nat)) := by rw [T0.out.d.cell]; rfl
            have k3 : wr.cell? ⟨w.heap.size, 3, none⟩ = some (.int .u8 (x3 : Nat)) := by rw [T0.out.d.cell]; rfl

            obtain ⟨V, hVd⟩ : ∃ V, V = n4 x0 x1 x2 x3 := ⟨_, rfl⟩
            have hVl : V < 16777216 := by rw [hVd]; unfold n4; omega
            have hV1 := u64_join4 x0 x1 x2 x3 hl0 hl1 hl2 hl3
            rw [← hVd] at hV1
            obtain ⟨y0, hy0⟩ : ∃ y, y = V / 65536 := ⟨_, rfl⟩
            obtain ⟨y1, hy1⟩ : ∃ y, y = V / 256 % 256 := ⟨_, rfl⟩
            obtain ⟨y2, hy2⟩ : ∃ y, y = V % 256 := ⟨_, rfl⟩
            have e0 : (V : Int) / 65536 = (y0 : Nat) := by omega
            have e1 : (V : Int) / 256 % 256 = (y1 : Nat) := by omega
            have e2 : (V : Int) % 256 = (y2 : Nat) := by omega
            have strict : ∀ (W : World) (Y X : Array Value), Tri w W gd g Y X (encC al dm 61).toArray → W.cell? ⟨g, 321, none⟩ = some (.bool false) := fun W Y X h => by rw [h.e.cell, encC_strict _ _ _ ha hd]
            have STR := Lib.hid strict
            have HVD := Lib.hid hVd
            have HY := Lib.hid (And.intro hy0 (And.intro hy1 hy2))
            have HXX := Lib.hid (And.intro hx0 (And.intro hx1 (And.intro hx2 hx3)))
            clear hx0 hx1 hx2 hx3 hVd hy0 hy1 hy2 strict hxl
            go_upto_region 41 with (fail)
            clear k0 k1 k2 k3
            go_wp2_with (first
              | ((with_reducible refine st_at (.tmp 223) ?_); refine wpList_put rfl rfl (.tmp 223) _ rfl (w.heap.size) (1) rfl _ rfl _ T6.out.d (by show _ < 4; decide) (World.grownBy.refl _ _) ?_; intro zz hbz hgz; have T7 := Lib.hid (T6.out.putD hbz hgz); clear hbz hgz; have k70 : zz.cell? ⟨w.heap.size, 0, none⟩ = some (.int .u8 (y0 : Nat)) := (by rw [T7.out.d.cell]; simp [e0, e1, e2]))
              | ((with_reducible refine st_at (.tmp 191) ?_); refine wpList_put rfl rfl (.tmp 191) _ rfl (w.heap.size) (2) rfl _ rfl _ T0.out.d (by show _ < 4; decide) (World.grownBy.refl _ _) ?_; intro zz hbz hgz; have T1 := Lib.hid (T0.out.putD hbz hgz); clear hbz hgz; skip)
              | ((with_reducible refine st_at (.tmp 192) ?_); refine wpList_put rfl rfl (.tmp 192) _ rfl (w.heap.size) (1) rfl _ rfl _ T1.out.d (by show _ < 4; decide) (World.grownBy.refl _ _) ?_; intro zz hbz hgz; have T2 := Lib.hid (T1.out.putD hbz hgz); clear hbz hgz; skip)
              | ((with_reducible refine st_at (.tmp 193) ?_); refine wpList_put rfl rfl (.tmp 193) _ rfl (w.heap.size) (0) rfl _ rfl _ T2.out.d (by show _ < 4; decide) (World.grownBy.refl _ _) ?_; intro zz hbz hgz; have T3 := Lib.hid (T2.out.putD hbz hgz); clear hbz hgz; have k31 : zz.cell? ⟨w.heap.size, 1, none⟩ = some (.int .u8 (y1 : Nat)) := (by rw [T3.out.d.cell]; simp [e0, e1, e2]))
              | ((with_reducible refine st_at (.tmp 209) ?_); refine wpList_put rfl rfl (.tmp 209) _ rfl (gd) (o + 1) rfl _ rfl _ T3.out.t (by simp only [Array.size_setIfInBounds, List.size_toArray]; have := HCS.out; omega) (World.grownBy.refl _ _) ?_; intro zz hbz hgz; have T6 := Lib.hid (T3.out.putG hbz hgz); clear hbz hgz; clear k31; have s6 := STR.out zz _ _ T6.out)
              | ((with_reducible refine st_at (.tmp 227) ?_); refine wpList_put rfl rfl (.tmp 227) _ rfl (gd) (o) rfl _ rfl _ T7.out.t (by simp only [Array.size_setIfInBounds, List.size_toArray]; have := HCS.out; omega) (World.grownBy.refl _ _) ?_; intro zz hbz hgz; have T8 := Lib.hid (T7.out.putG hbz hgz); clear hbz hgz; clear k70; have s8 := STR.out zz _ _ T8.out))
            go_ret3
            exact QPost.bad' T8.out.low HQ.out _ _ _ _ rfl

      · have hm1 : ((n : Int) != 61) = true := by rw [bne_iff_ne]; omega
        have HQ := Lib.hid (q_bad (f := f) (pad := true) i HIR.out HI.out hbad (.inr (.inl (fun h => hn61 (by rw [HN.out, h]; rfl)))))
        clear hbad hn61
        go_wp2
        go_ret3
        exact QPost.bad HB (HQ.out) _ _ _ _ rfl
end Go.Proofs.YteecamdcfkielaaDoor.B64
