import Derived.Test.YtapjbdigpleekaaGreatGN
import Derived.Shelf.Small.Strs
/- symMerge at all sizes; plain laws of stable's blocks; the conditions are on places and on what lies in memory. -/
set_option linter.unusedVariables false
set_option linter.unusedSimpArgs false
set_option linter.unusedSectionVars false
namespace Go.Proofs.YtapjbdigpleekaaGreat.St
open Go.RowKit Go.Proofs.YtapjbdigpleekaaGreat.K Go.Sort Go.Lib Go.Proofs
variable {α : Type} [Inhabited α] {P : Program} {k : Nat}
section
variable {enc : α → List Value} {w : World} {blk off N : Nat} {cf : α → α → Int} {g : Nat} {cb : Array Value}
theorem symMerge_calls (L : Lays P k) (B : Base enc k w blk off N) (hS : SWO (ltOf cf)) (eg : ∀ args w, (callFunc g args).run P w = .ok (.enter g args) w) (hcmp : CmpLays P g cb enc k cf blk off N w) (cap : Nat) :
    ∀ (z a m b m0 : Nat) (d : Array α) (os : Array Obj), b - a < z → a < m → m < b → b ≤ N → d.size = N → SortedIn (ltOf cf) a m d → SortedIn (ltOf cf) m b d →
      Calls P 125 #[.slice (some ⟨blk, off, none⟩) N cap, .int .i64 (a : Nat), .int .i64 (m : Nat), .int .i64 (b : Nat), .func (.func g) #[] cb] (sortWorldK enc k w blk off m0 d os) (MrgPost cf enc k w blk off d a b)
  | 0, a, m, b, m0, d, os, hz, _, _, _, _, _, _ => by omega
  | z + 1, a, m, b, m0, d, os, hz, h1, h2, h3, hd, s1, s2 => by
    by_cases e1 : m = a + 1
    · exact symMerge_A L B hS eg hcmp cap m0 d os hd a b (by omega) h3 (by rw [← e1]; exact s2) m e1
    · by_cases e2 : b = m + 1
      · exact symMerge_B L B hS eg hcmp cap m0 d os hd a m (by omega) (by omega) s1 b e2
      · have IH : ∀ (a' m' b' m0 : Nat) (d : Array α) (os : Array Obj), b' - a' < b - a → a' < m' → m' < b' → b' ≤ N → d.size = N → SortedIn (ltOf cf) a' m' d → SortedIn (ltOf cf) m' b' d →
            Calls P 125 #[.slice (some ⟨blk, off, none⟩) N cap, .int .i64 (a' : Nat), .int .i64 (m' : Nat), .int .i64 (b' : Nat), .func (.func g) #[] cb] (sortWorldK enc k w blk off m0 d os) (MrgPost cf enc k w blk off d a' b') :=
          fun a' m' b' m0 d os q1 q2 q3 q4 q5 q6 q7 => symMerge_calls L B hS eg hcmp cap z a' m' b' m0 d os (by omega) q2 q3 q4 q5 q6 q7
        by_cases e3 : (a + b) / 2 < m
        · exact symMerge_C1 L B hS eg hcmp cap m0 d os hd a m b (by omega) (by omega) h3 e3 s1 s2 IH
        · exact symMerge_C2 L B hS eg hcmp cap m0 d os hd a m b (by omega) (by omega) h3 (by omega) s1 s2 IH
end
section
variable {lt : α → α → Bool}
/-- Blocks of so many that are sorted, up to e. -/
def BS (lt : α → α → Bool) (bs e : Nat) (d : Array α) : Prop := ∀ q x, x = q * bs → x < e → SortedIn lt x (min (x + bs) e) d
theorem mul_gap {q r c : Nat} (h : q * c < r * c + c) : q * c ≤ r * c := by
  have h1 : q * c < (r + 1) * c := by rw [Nat.add_mul, Nat.one_mul]; exact h
  exact Nat.mul_le_mul_right c (Nat.le_of_lt_succ (Nat.lt_of_mul_lt_mul_right h1))
theorem mul_below {q r c : Nat} (h : q * c < r * c) : q * c + c ≤ r * c := by
  have h1 := Nat.lt_of_mul_lt_mul_right h
  have := Nat.mul_le_mul_right c (show q + 1 ≤ r from h1)
  rwa [Nat.add_mul, Nat.one_mul] at this
theorem BS.more {bs a e : Nat} {d d' : Array α} (r : Nat) (ha : a = r * bs) (h : BS lt bs a d) (hae : a ≤ e) (hea : e ≤ a + bs) (hp : PermIn a e d d') (hs : SortedIn lt a e d') : BS lt bs e d' := by
  intro q x hx hxe
  by_cases hxa : x < a
  · have h1 : x + bs ≤ a := by rw [hx, ha]; exact mul_below (by rw [← hx, ← ha]; exact hxa)
    have h2 := h q x hx hxa
    rw [Nat.min_eq_left h1] at h2
    rw [Nat.min_eq_left (by omega)]
    exact keepS hp (.inl h1) h2
  · have h1 : x ≤ a := by rw [hx, ha]; exact mul_gap (by rw [← hx, ← ha]; omega)
    obtain rfl : x = a := by omega
    rw [Nat.min_eq_right hea]
    exact hs
/-- What stands in the midst of a round of merging: pairs that are merged up to a, blocks of bs from a on. -/
def Mid (lt : α → α → Bool) (bs a N : Nat) (d : Array α) : Prop := BS lt (2 * bs) a d ∧ ∀ q x, x = q * bs → a ≤ x → x < N → SortedIn lt x (min (x + bs) N) d
theorem Mid.start {bs N : Nat} {d : Array α} (h : BS lt bs N d) : Mid lt bs 0 N d := ⟨fun q x _ h0 => absurd h0 (by omega), fun q x hx _ hN => h q x hx hN⟩
theorem Mid.halves {bs a N : Nat} {d : Array α} (r : Nat) (ha : a = r * (2 * bs)) (h : Mid lt bs a N d) (hN : a + bs < N) : SortedIn lt a (a + bs) d ∧ SortedIn lt (a + bs) (min (a + bs + bs) N) d := by
  have h1 := h.2 (2 * r) a (by rw [ha]; rw [← Nat.mul_assoc, Nat.mul_comm r 2]) (Nat.le_refl _) (by omega)
  have h2 := h.2 (2 * r + 1) (a + bs) (by rw [ha, Nat.add_mul, Nat.one_mul, ← Nat.mul_assoc, Nat.mul_comm r 2]) (by omega) hN
  rw [Nat.min_eq_left (by omega)] at h1
  exact ⟨h1, h2⟩
theorem Mid.step {bs a N : Nat} {d d' : Array α} (r : Nat) (ha : a = r * (2 * bs)) (h : Mid lt bs a N d) (hN : a + 2 * bs ≤ N) (hp : PermIn a (a + 2 * bs) d d') (hs : SortedIn lt a (a + 2 * bs) d') : Mid lt bs (a + 2 * bs) N d' :=
  ⟨h.1.more r ha (by omega) (Nat.le_refl _) hp hs, fun q x hx h1 h2 => keepS hp (.inr h1) (h.2 q x hx (by omega) h2)⟩
theorem Mid.done {bs a N : Nat} {d d' : Array α} (r : Nat) (ha : a = r * (2 * bs)) (h : Mid lt bs a N d) (hN : N < a + 2 * bs) (hb : a + bs < N) (hp : PermIn a N d d') (hs : SortedIn lt a N d') : BS lt (2 * bs) N d' :=
  h.1.more r ha (by omega) (by omega) hp hs
theorem Mid.done2 {bs a N : Nat} {d : Array α} (r : Nat) (ha : a = r * (2 * bs)) (h : Mid lt bs a N d) (haN : a ≤ N) (hb : N ≤ a + bs) : BS lt (2 * bs) N d := by
  refine h.1.more r ha haN (by omega) (permIn_refl d a N) ?_
  by_cases h0 : a < N
  · have h1 := h.2 (2 * r) a (by rw [ha]; rw [← Nat.mul_assoc, Nat.mul_comm r 2]) (Nat.le_refl _) h0
    rwa [Nat.min_eq_right hb] at h1
  · intro i j h1 h2 h3; omega
theorem BS.all {bs N : Nat} {d : Array α} (h : BS lt bs N d) (hb : N ≤ bs) : SortedIn lt 0 N d := by
  by_cases h0 : 0 < N
  · have := h 0 0 (by simp) h0
    rwa [Nat.zero_add, Nat.min_eq_right hb] at this
  · intro i j h1 h2 h3; omega
end
end Go.Proofs.YtapjbdigpleekaaGreat.St

/- This program bears the merging sort's bodies; slices.insertionSortCmpFunc over fields by the shelf's contract. -/
set_option linter.unusedVariables false
set_option linter.unusedSimpArgs false
namespace Go.Proofs.YtapjbdigpleekaaGreat.St
open Go.RowKit Go.Proofs.YtapjbdigpleekaaGreat.K Go.Sort Go.Lib Go.Proofs Go.Shelf
variable {α : Type} [Inhabited α]
theorem laysS : Lays Tryz.prog 6 where
  mixed := by kernel_rfl
  fSwap := Tryz.func127
  fRot := Tryz.func126
  fMrg := Tryz.func125
  cSwap := fun args w => by kernel_rfl
  cRot := fun args w => by kernel_rfl
  cMrg := fun args w => by kernel_rfl
  t_int := by kernel_rfl
  a_int := fun w => by kernel_rfl
  z_int := fun w => by kernel_rfl
  v_int := fun w => by kernel_rfl
  t_u := by kernel_rfl
  a_u := fun w => by kernel_rfl
  z_u := fun w => by kernel_rfl
  v_u := fun w => by kernel_rfl
  t_bool := by kernel_rfl
  a_bool := fun w => by kernel_rfl
  z_bool := fun w => by kernel_rfl
  v_bool := fun w => by kernel_rfl
  t_sl := by kernel_rfl
  a_sl := fun w => by kernel_rfl
  z_sl := fun w => by kernel_rfl
  v_sl := fun w => by kernel_rfl
  t_fn := by kernel_rfl
  a_fn := fun w => by kernel_rfl
  z_fn := fun w => by kernel_rfl
  v_fn := fun w => by kernel_rfl
  aE := fun w => by kernel_rfl
  zE := fun w => by kernel_rfl
def renI : Ren := ⟨fun x => if x = 20 then 124 else x, fun t => if t = 0 then 0 else if t = 3 then 3 else if t = 4 then 4 else if t = 22 then 22 else if t = 24 then 45 else if t = 25 then 166 else t, fun x => x⟩
theorem laysI : SlLaysF0.n20 Tryz.prog renI where
  mixed := by kernel_rfl
  f20 := ⟨Tryz.f124.name, by kernel_rfl, by kernel_rfl⟩
  t0 := by kernel_rfl
  a0 := fun w => by kernel_rfl
  z0 := fun w => by kernel_rfl
  v0 := fun w => by kernel_rfl
  t3 := by kernel_rfl
  a3 := fun w => by kernel_rfl
  z3 := fun w => by kernel_rfl
  v3 := fun w => by kernel_rfl
  t4 := by kernel_rfl
  a4 := fun w => by kernel_rfl
  z4 := fun w => by kernel_rfl
  v4 := fun w => by kernel_rfl
  t22 := by kernel_rfl
  a22 := fun w => by kernel_rfl
  z22 := fun w => by kernel_rfl
  v22 := fun w => by kernel_rfl
  t25 := by kernel_rfl
  a25 := fun w => by kernel_rfl
  z25 := fun w => by kernel_rfl
  v25 := fun w => by kernel_rfl
section
variable {enc : α → List Value} {w : World} {blk off N : Nat} {cf : α → α → Int} {g : Nat} {cb : Array Value}
theorem world_again (k : Nat) (hblk : blk < w.heap.size) (m n : Nat) (d d' : Array α) (os os' : Array Obj) (h : d'.size = d.size) : sortWorldK enc k (sortWorldK enc k w blk off m d os) blk off n d' os' = sortWorldK enc k w blk off (m + n) d' (os ++ os') := by
  unfold sortWorldK
  exact grow_step_growK enc k w os os' m n blk off d d' hblk h
theorem ins_calls (B : Base enc 6 w blk off N) (hS : SWO (ltOf cf)) (eg : ∀ args w, (callFunc g args).run Tryz.prog w = .ok (.enter g args) w) (hcmp : CmpLays Tryz.prog g cb enc 6 cf blk off N w) (cap : Nat) (a b m0 : Nat) (d : Array α) (os : Array Obj) (hd : d.size = N) (hab : a ≤ b) (hb : b ≤ N) :
    Calls Tryz.prog 124 #[.slice (some ⟨blk, off, none⟩) N cap, .int .i64 (a : Nat), .int .i64 (b : Nat), .func (.func g) #[] cb] (sortWorldK enc 6 w blk off m0 d os) (MrgPost cf enc 6 w blk off d a b) := by
  have hc2 : CmpLays Tryz.prog g cb enc 6 cf blk off d.size (sortWorldK enc 6 w blk off m0 d os) := fun m os' dk hs x y => by
    rw [world_again 6 B.hblk m0 m d dk os os' hs]
    refine (hcmp (m0 + m) (os ++ os') dk (hs.trans hd) x y).mono ?_
    rintro e w' ⟨he, q, os'', hw⟩
    exact ⟨he, q, os'', hw⟩
  have h := AnyQ.insertionSortCmpFunc laysI 6 (fun w => by kernel_rfl) (fun w => by kernel_rfl) enc B.hk B.h1 cf g cb blk off cap a b d (sortWorldK enc 6 w blk off m0 d os) eg hc2 (B.holds m0 d os hd) (by have := size_sortWorldK_c enc 6 w blk off m0 d os; have := B.hblk; omega) hab (by omega) (by have := B.hN; omega)
  rw [hd] at h
  refine Calls.mono (show Calls Tryz.prog 124 #[.slice (some ⟨blk, off, none⟩) N cap, .int .i64 (a : Nat), .int .i64 (b : Nat), .func (.func g) #[] cb] (sortWorldK enc 6 w blk off m0 d os) _ from h) ?_
  rintro e w' ⟨rfl, n, os', rfl⟩
  obtain ⟨p1, p2⟩ := insertionSort_holds (lt := ltOf cf) hS d a b hab (by omega)
  exact ⟨rfl, m0 + n, _, os ++ os', world_again 6 B.hblk m0 n d _ os os' p1.1, p1, p2⟩
end
end Go.Proofs.YtapjbdigpleekaaGreat.St

/- The walks of slices.stableCmpFunc and slices.SortStableFunc over fields; the conditions are on lengths and on what lies in memory. -/
set_option linter.unusedVariables false
set_option linter.unusedSimpArgs false
namespace Go.Proofs.YtapjbdigpleekaaGreat.St
open Go.RowKit Go.Proofs.YtapjbdigpleekaaGreat.K Go.Sort Go.Lib Go.Proofs Go.Shelf
variable {α : Type} [Inhabited α]
section
variable {enc : α → List Value} {w : World} {blk off N : Nat} {cf : α → α → Int} {g : Nat} {cb : Array Value}
set_option maxHeartbeats 8000000 in
set_option maxRecDepth 1000000 in
theorem stable_calls (B : Base enc 6 w blk off N) (hS : SWO (ltOf cf)) (eg : ∀ args w, (callFunc g args).run Tryz.prog w = .ok (.enter g args) w) (hcmp : CmpLays Tryz.prog g cb enc 6 cf blk off N w) (cap : Nat) (m0 : Nat) (d : Array α) (os : Array Obj) (hd : d.size = N) :
    Calls Tryz.prog 120 #[.slice (some ⟨blk, off, none⟩) N cap, .int .i64 (N : Nat), .func (.func g) #[] cb] (sortWorldK enc 6 w blk off m0 d os) (MrgPost cf enc 6 w blk off d 0 N) := by
  have HIN := Lib.hid (fun a b m0 (d : Array α) os => ins_calls (enc := enc) (w := w) (blk := blk) (off := off) B hS eg hcmp cap a b m0 d os)
  have HMG := Lib.hid (fun z a m b m0 (d : Array α) os => symMerge_calls (enc := enc) (w := w) (blk := blk) (off := off) laysS B hS eg hcmp cap z a m b m0 d os)
  have hN := B.hN
  have HD := Lib.hid hd
  have H0 : Hid (BS (ltOf cf) 20 0 d ∧ PermIn 0 N d d ∧ d.size = N) := Lib.hid ⟨fun q x _ h => absurd h (by omega), permIn_refl d 0 N, hd⟩
  clear B hS hcmp hd
  go_enter Tryz.func120, Tryz.ntmps120
  go_wp2
  go_loopg [7, 8] N (fun y u v wr => ∃ (q a b n : Nat) (dk : Array α) (os' : Array Obj), y + a = N ∧ u = .int .i64 (a : Nat) ∧ v = .int .i64 (b : Nat) ∧ wr = sortWorldK enc 6 w blk off n dk os' ∧ Hid (a = q * 20 ∧ b = a + 20 ∧ a ≤ N) ∧ Hid (BS (ltOf cf) 20 a dk ∧ PermIn 0 N d dk ∧ dk.size = N))
  case atStart => exact ⟨0, 0, 20, m0, d, os, rfl, rfl, rfl, rfl, Lib.hid ⟨by simp, rfl, Nat.zero_le _⟩, H0⟩
  case round =>
    clear H0
    obtain ⟨q, a, b, n, dk, os', hy, rfl, rfl, rfl, HAB, HK⟩ := hrel
    obtain ⟨ha, hb, haN⟩ := HAB.out
    have HY := Lib.hid hy
    have HA := Lib.hid ha
    clear hy ha
    by_cases hbN : b ≤ N
    · have hlt : (b : Int) ≤ (N : Int) := by omega
      obtain ⟨b2, hb2⟩ : ∃ x, x = b + 20 := ⟨_, rfl⟩
      have eb : (b : Int) + 20 = (b2 : Nat) := by omega
      have HC := Lib.hid (HIN.out a b n dk os' HK.out.2.2 (by omega) hbN)
      have HB2 := Lib.hid (And.intro hb2 hb)
      clear hb2 hb
      go_wp2_with (go_at_call 124; go_loud ((with_reducible refine Calls.mono HC.out ?_); rintro e w1 ⟨rfl, q1, d1, os1, hw1, hp1, hs1⟩; subst hw1; have HL := Lib.hid (And.intro hp1 hs1); clear hp1 hs1))
      obtain ⟨hb2, hb⟩ := HB2.out
      go_roundg (N - b)
      case measure => have := HY.out; omega
      case rel =>
        obtain ⟨r1, r2, r3⟩ := HK.out
        refine ⟨q + 1, b, b2, q1, d1, os1, by omega, rfl, by go_num, rfl, Lib.hid ⟨by rw [hb, HA.out, Nat.add_mul], hb2, hbN⟩, Lib.hid ⟨?_, ?_, HL.out.1.1.trans r3⟩⟩
        · exact r1.more q HA.out (by omega) (by omega) HL.out.1 HL.out.2
        · exact permIn_trans _ _ _ 0 N r2 (permIn_mono dk d1 a b 0 N (Nat.zero_le _) hbN (by rw [r3]; exact Nat.le_refl _) HL.out.1)
    · have hlt : ¬ (b : Int) ≤ (N : Int) := by omega
      have HC := Lib.hid (HIN.out a N n dk os' HK.out.2.2 haN (Nat.le_refl _))
      have HB2 := Lib.hid hb
      clear hb
      go_wp2_with (go_at_call 124; go_loud ((with_reducible refine Calls.mono HC.out ?_); rintro e w1 ⟨rfl, q1, d1, os1, hw1, hp1, hs1⟩; subst hw1; have HL := Lib.hid (And.intro hp1 hs1); clear hp1 hs1))
      have H1 : Hid (BS (ltOf cf) 20 N d1 ∧ PermIn 0 N d d1 ∧ d1.size = N) := Lib.hid (by
        obtain ⟨r1, r2, r3⟩ := HK.out
        exact ⟨r1.more q HA.out haN (by have := HB2.out; omega) HL.out.1 HL.out.2, permIn_trans _ _ _ 0 N r2 (permIn_mono dk d1 a N 0 N (Nat.zero_le _) (Nat.le_refl _) (by rw [r3]; exact Nat.le_refl _) HL.out.1), HL.out.1.1.trans r3⟩)
      clear HK HL HC HA HAB HB2 HY
      go_loopg [6] (200000 - 20) (fun y u wr => ∃ (bs n : Nat) (dk : Array α) (os' : Array Obj), y + bs = 200000 ∧ u = .int .i64 (bs : Nat) ∧ wr = sortWorldK enc 6 w blk off n dk os' ∧ Hid (20 ≤ bs) ∧ Hid (BS (ltOf cf) bs N dk ∧ PermIn 0 N d dk ∧ dk.size = N))
      case atStart => exact ⟨20, q1, d1, os1, by omega, rfl, rfl, Lib.hid (Nat.le_refl _), H1⟩
      case round =>
        clear H1
        obtain ⟨bs, n2, dk2, os2, hy, rfl, rfl, HBS, HK⟩ := hrel
        have hbs := HBS.out
        have HY := Lib.hid hy
        clear hy
        by_cases hbn : bs < N
        · have hlt2 : (bs : Int) < (N : Int) := by omega
          obtain ⟨tb, htb⟩ : ∃ x, x = 2 * bs := ⟨_, rfl⟩
          have e1 : 2 * (bs : Int) = (tb : Nat) := by omega
          have e2 : (bs : Int) * 2 = (tb : Nat) := by omega
          have htbN : tb ≤ 200000 := by omega
          have HTB := Lib.hid htb
          have HM0 : Hid (Mid (ltOf cf) bs 0 N dk2 ∧ PermIn 0 N d dk2 ∧ dk2.size = N) := Lib.hid ⟨Mid.start HK.out.1, HK.out.2⟩
          clear htb
          go_wp2_with fail
          go_loopg [7, 8] N (fun y u v wr => ∃ (r a b n : Nat) (dk : Array α) (os' : Array Obj), y + a = N ∧ u = .int .i64 (a : Nat) ∧ v = .int .i64 (b : Nat) ∧ wr = sortWorldK enc 6 w blk off n dk os' ∧ Hid (a = r * (2 * bs) ∧ b = a + tb ∧ a ≤ N) ∧ Hid (Mid (ltOf cf) bs a N dk ∧ PermIn 0 N d dk ∧ dk.size = N))
          case atStart => exact ⟨0, 0, tb, n2, dk2, os2, rfl, rfl, rfl, rfl, Lib.hid ⟨by simp, by omega, Nat.zero_le _⟩, HM0⟩
          case round =>
            clear HM0
            obtain ⟨r, a, b, n3, dk3, os3, hy3, rfl, rfl, rfl, HAB3, HK3⟩ := hrel
            obtain ⟨ha3, hb3, haN3⟩ := HAB3.out
            have HY3 := Lib.hid hy3
            have HA3 := Lib.hid ha3
            have htb := HTB.out
            clear hy3 ha3
            obtain ⟨mm, hmm⟩ : ∃ x, x = a + bs := ⟨_, rfl⟩
            have em : (a : Int) + (bs : Int) = (mm : Nat) := by omega
            by_cases hbN3 : b ≤ N
            · have hlt3 : (b : Int) ≤ (N : Int) := by omega
              obtain ⟨b4, hb4⟩ : ∃ x, x = b + tb := ⟨_, rfl⟩
              have eb4 : (b : Int) + (tb : Int) = (b4 : Nat) := by omega
              obtain ⟨v1, v2⟩ := HK3.out.1.halves r HA3.out (by omega)
              have HC3 := Lib.hid (HMG.out (b - a + 1) a mm b n3 dk3 os3 (by omega) (by omega) (by omega) hbN3 HK3.out.2.2 (by rw [hmm]; exact v1) (by rw [Nat.min_eq_left (by omega), show a + bs + bs = b by omega, ← hmm] at v2; exact v2))
              have HB4 := Lib.hid (And.intro hb4 (And.intro hb3 (And.intro hmm htb)))
              clear hb4 hb3 hmm htb v1 v2
              go_wp2_with (go_at_call 125; go_loud ((with_reducible refine Calls.mono HC3.out ?_); rintro e w1 ⟨rfl, q1, d1, os1, hw1, hp1, hs1⟩; subst hw1; have HL := Lib.hid (And.intro hp1 hs1); clear hp1 hs1))
              obtain ⟨hb4, hb3, hmm, htb⟩ := HB4.out
              go_roundg (N - b)
              case measure => have := HY3.out; omega
              case rel =>
                obtain ⟨r1, r2, r3⟩ := HK3.out
                have hb5 : b = a + 2 * bs := by omega
                refine ⟨r + 1, b, b4, q1, d1, os1, by omega, rfl, by go_num, rfl, Lib.hid ⟨by rw [hb5, HA3.out, Nat.add_mul, Nat.one_mul], hb4, hbN3⟩, Lib.hid ⟨?_, ?_, HL.out.1.1.trans r3⟩⟩
                · have := HL.out
                  rw [hb5] at this ⊢
                  exact r1.step r HA3.out (by omega) this.1 this.2
                · exact permIn_trans _ _ _ 0 N r2 (permIn_mono dk3 d1 a b 0 N (Nat.zero_le _) hbN3 (by rw [r3]; exact Nat.le_refl _) HL.out.1)
            · have hlt3 : ¬ (b : Int) ≤ (N : Int) := by omega
              by_cases hmN : mm < N
              · have hlt4 : (mm : Int) < (N : Int) := by omega
                obtain ⟨v1, v2⟩ := HK3.out.1.halves r HA3.out (by omega)
                have HC3 := Lib.hid (HMG.out (N - a + 1) a mm N n3 dk3 os3 (by omega) (by omega) (by omega) (Nat.le_refl _) HK3.out.2.2 (by rw [hmm]; exact v1) (by rw [Nat.min_eq_right (by omega), ← hmm] at v2; exact v2))
                have HB4 := Lib.hid (And.intro hb3 (And.intro hmm htb))
                clear hb3 hmm htb v1 v2
                go_wp2_with (go_at_call 125; go_loud ((with_reducible refine Calls.mono HC3.out ?_); rintro e w1 ⟨rfl, q1, d1, os1, hw1, hp1, hs1⟩; subst hw1; have HL := Lib.hid (And.intro hp1 hs1); clear hp1 hs1))
                obtain ⟨hb3, hmm, htb⟩ := HB4.out
                go_roundg (200000 - tb)
                case measure => have := HY.out; omega
                case rel =>
                  obtain ⟨r1, r2, r3⟩ := HK3.out
                  refine ⟨tb, q1, d1, os1, by omega, by go_num, rfl, Lib.hid (by omega), Lib.hid ⟨?_, ?_, HL.out.1.1.trans r3⟩⟩
                  · rw [htb]
                    exact r1.done r HA3.out (by omega) (by omega) HL.out.1 HL.out.2
                  · exact permIn_trans _ _ _ 0 N r2 (permIn_mono dk3 d1 a N 0 N (Nat.zero_le _) (Nat.le_refl _) (by rw [r3]; exact Nat.le_refl _) HL.out.1)
              · have hlt4 : ¬ (mm : Int) < (N : Int) := by omega
                have HB4 := Lib.hid (And.intro hb3 (And.intro hmm htb))
                clear hb3 hmm htb
                go_wp2_with fail
                obtain ⟨hb3, hmm, htb⟩ := HB4.out
                go_roundg (200000 - tb)
                case measure => have := HY.out; omega
                case rel =>
                  obtain ⟨r1, r2, r3⟩ := HK3.out
                  refine ⟨tb, n3, dk3, os3, by omega, by go_num, rfl, Lib.hid (by omega), Lib.hid ⟨?_, r2, r3⟩⟩
                  rw [htb]
                  exact r1.done2 r HA3.out haN3 (by omega)
        · have hlt2 : ¬ (bs : Int) < (N : Int) := by omega
          go_wp2
          go_end0
          exact ⟨rfl, n2, dk2, os2, rfl, HK.out.2.1, HK.out.1.all (by omega)⟩
set_option maxHeartbeats 4000000 in
set_option maxRecDepth 1000000 in
theorem SortStable_calls (B : Base enc 6 w blk off N) (hS : SWO (ltOf cf)) (eg : ∀ args w, (callFunc g args).run Tryz.prog w = .ok (.enter g args) w) (hcmp : CmpLays Tryz.prog g cb enc 6 cf blk off N w) (cap : Nat) (d : Array α) (hd : d.size = N) (hH : HoldsK enc 6 w blk off d) :
    Calls Tryz.prog 105 #[.slice (some ⟨blk, off, none⟩) N cap, .func (.func g) #[] cb] w (MrgPost cf enc 6 w blk off d 0 N) := by
  have hst : w = sortWorldK enc 6 w blk off 0 d #[] := by unfold sortWorldK; rw [grow_empty]; exact (putRowK_self enc 6 w blk off d hH).symm
  have h := stable_calls B hS eg hcmp cap 0 d #[] hd
  rw [← hst] at h
  have HC := Lib.hid h
  clear h hst B hS eg hcmp hH
  go_enter Tryz.func105, Tryz.ntmps105
  go_wp2_with (go_at_call 120; go_loud ((with_reducible refine Calls.mono HC.out ?_); rintro e w1 ⟨rfl, q1, d1, os1, hw1, hp1, hs1⟩; have HL := Lib.hid (And.intro hw1 (And.intro hp1 hs1)); clear hw1 hp1 hs1))
  go_end0
  exact ⟨rfl, q1, d1, os1, HL.out.1, HL.out.2.1, HL.out.2.2⟩
end
end Go.Proofs.YtapjbdigpleekaaGreat.St

/- strings.Compare by the shelf's contract; told's comparison of two fields by their names; no condition. -/
set_option linter.unusedVariables false
set_option linter.unusedSimpArgs false
set_option linter.unusedSectionVars false
namespace Go.Proofs.YtapjbdigpleekaaGreat.St
open Go.RowKit Go.Proofs.YtapjbdigpleekaaGreat.K Go.Sort Go.Lib Go.Proofs Go.Shelf
def renC : Ren := ⟨fun x => if x = 106 then 90 else if x = 213 then 114 else if x = 265 then 123 else x, fun t => if t = 3 then 3 else if t = 9 then 9 else t, fun x => x⟩
theorem laysC : Lays.n106 Tryz.prog renC where
  mixed := by kernel_rfl
  f106 := by kernel_rfl
  f213 := by kernel_rfl
  f265 := by kernel_rfl
  t3 := by kernel_rfl
  a3 := fun w => by kernel_rfl
  z3 := fun w => by kernel_rfl
  v3 := fun w => by kernel_rfl
  t9 := by kernel_rfl
  a9 := fun w => by kernel_rfl
  z9 := fun w => by kernel_rfl
  v9 := fun w => by kernel_rfl
theorem Compare_calls (w : World) (x y : ByteArray) : Calls Tryz.prog 90 #[.string x, .string y] w fun e w' => e = .returned (.int .i64 (Lib.compareBytes x.data.toList y.data.toList)) ∧ w' = w := Any.strings_Compare laysC x y w
theorem compare_neg : ∀ a b : List UInt8, Lib.compareBytes a b < 0 ↔ a < b
  | [], [] => by simp [Lib.compareBytes]
  | [], _ :: _ => by simp [Lib.compareBytes]
  | _ :: _, [] => by simp [Lib.compareBytes]
  | a :: r, b :: s => by
    rw [Lib.compareBytes, List.cons_lt_cons_iff]
    by_cases h : a < b
    · simp [h]
    · rw [if_neg h]
      by_cases h2 : b < a
      · have : ¬ a = b := fun e => by rw [e] at h2; exact absurd h2 (UInt8.lt_irrefl b)
        simp [h, h2, this]
      · have e : a = b := by
          have h3 := UInt8.le_antisymm (UInt8.not_lt.1 h2) (UInt8.not_lt.1 h)
          exact h3
        rw [if_neg h2, compare_neg r s]
        simp [h, e]
section
variable {α : Type} [Inhabited α]
/-- The comparison of two fields by their names. -/
def cfN (nm : α → ByteArray) (x y : α) : Int := Lib.compareBytes (nm x).data.toList (nm y).data.toList
theorem ltN (nm : α → ByteArray) (x y : α) : ltOf (cfN nm) x y = decide ((nm x).data.toList < (nm y).data.toList) := by
  unfold ltOf cfN
  exact decide_eq_decide.2 (compare_neg _ _)
theorem swoN (nm : α → ByteArray) : SWO (ltOf (cfN nm)) where
  irrefl x := by rw [ltN]; simp
  trans x y z h1 h2 := by rw [ltN, decide_eq_true_eq] at *; exact List.lt_trans h1 h2
  ntrans x y z h1 h2 := by
    rw [ltN, decide_eq_false_iff_not] at *
    exact List.not_lt.2 (List.le_trans (List.not_lt.1 h2) (List.not_lt.1 h1))
set_option maxRecDepth 100000 in
theorem told2_calls (w : World) (x0 y0 : ByteArray) (x1 x2 x3 x4 x5 y1 y2 y3 y4 y5 : Value) : Calls Tryz.prog 106 #[.agg #[.string x0, x1, x2, x3, x4, x5], .agg #[.string y0, y1, y2, y3, y4, y5]] w fun e w' => e = .returned (.int .i64 (Lib.compareBytes x0.data.toList y0.data.toList)) ∧ w' = (w.alloc (.cells #[.string x0, x1, x2, x3, x4, x5] 45)).alloc (.cells #[.string y0, y1, y2, y3, y4, y5] 45) := by
  go_enter Tryz.func106, Tryz.ntmps106
  go_wp2_with (go_at_call 90; go_loud ((with_reducible refine Calls.mono (Compare_calls _ _ _) ?_); rintro e w' ⟨rfl, rfl⟩))
  go_ret
  exact ⟨rfl, rfl⟩
theorem told2_any (w : World) (args : Array Value) (x0 y0 : ByteArray) (x1 x2 x3 x4 x5 y1 y2 y3 y4 y5 : Value) (ha : args = #[.agg #[.string x0, x1, x2, x3, x4, x5], .agg #[.string y0, y1, y2, y3, y4, y5]]) : Calls Tryz.prog 106 args w fun e w' => e = .returned (.int .i64 (Lib.compareBytes x0.data.toList y0.data.toList)) ∧ ∃ q os', w' = grow (w.drewN q) os' := by
  rw [ha]
  refine Calls.mono (told2_calls w x0 y0 x1 x2 x3 x4 x5 y1 y2 y3 y4 y5) ?_
  rintro e w' ⟨h1, h2⟩
  refine ⟨h1, 0, #[.cells #[.string x0, x1, x2, x3, x4, x5] 45] ++ #[.cells #[.string y0, y1, y2, y3, y4, y5] 45], ?_⟩
  rw [h2, alloc_eq_grow, alloc_eq_grow, grow_grow]
  rfl
theorem cat_nil (a b : Value) : #[a, b] ++ #[] = #[a, b] := by simp
theorem told2_lays {enc : α → List Value} {nm : α → ByteArray} (he : ∀ x, ∃ x1 x2 x3 x4 x5, enc x = [.string (nm x), x1, x2, x3, x4, x5]) (blk off N : Nat) (w : World) : CmpLays Tryz.prog 106 #[] enc 6 (cfN nm) blk off N w := fun m os dk hs x y => by
  obtain ⟨x1, x2, x3, x4, x5, ex⟩ := he x
  obtain ⟨y1, y2, y3, y4, y5, ey⟩ := he y
  generalize sortWorldK enc 6 w blk off m dk os = W
  refine told2_any W _ (nm x) (nm y) x1 x2 x3 x4 x5 y1 y2 y3 y4 y5 ?_
  rw [ex, ey, cat_nil]
/-- slices.SortStableFunc of fields by their names, as told calls it. -/
theorem SortNames_calls {enc : α → List Value} {nm : α → ByteArray} (he : ∀ x, ∃ x1 x2 x3 x4 x5, enc x = [.string (nm x), x1, x2, x3, x4, x5]) (h1 : ∀ x, ∀ v ∈ enc x, v.oneCell' = true) {w : World} {blk off : Nat} (cap : Nat) (d : Array α) (hN : d.size ≤ 100000) (hblk : blk < w.heap.size) (hH : HoldsK enc 6 w blk off d) :
    Calls Tryz.prog 105 #[.slice (some ⟨blk, off, none⟩) d.size cap, .func (.func 106) #[] #[]] w (MrgPost (cfN nm) enc 6 w blk off d 0 d.size) :=
  SortStable_calls ⟨fun x => by obtain ⟨x1, x2, x3, x4, x5, ex⟩ := he x; rw [ex]; rfl, h1, ⟨d, rfl, hH⟩, hblk, hN⟩ (swoN nm) (fun args w => by kernel_rfl) (told2_lays he blk off d.size w) cap d rfl hH
end
end Go.Proofs.YtapjbdigpleekaaGreat.St
