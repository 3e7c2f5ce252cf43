/- A symmetric key's Keys; the conditions are on what lies in memory. -/
import Derived.Test.YtlbnemnadegapaaDoorKfSet
import Derived.Test.YtlbnemnadegapaaDoorKySort2
import Derived.Test.YtlbnemnadegapaaDoorKyTail2
set_option linter.unusedVariables false
set_option linter.unusedSimpArgs false
namespace Go.Proofs.YtlbnemnadegapaaDoor.Kf
open Go.RowKit Go.Proofs.YtlbnemnadegapaaDoor.K Go.Proofs.YtlbnemnadegapaaDoor.Nm Go.Proofs.YtlbnemnadegapaaDoor.Ky
/-- The names of a key's fields, in the order in which Keys tells them. -/
def nmF (a k o u : Bool) : List ByteArray := [⟨#[107, 116, 121]⟩] ++ (if a then [⟨#[97, 108, 103]⟩] else []) ++ (if k then [⟨#[107, 105, 100]⟩] else []) ++ (if o then [⟨#[107, 101, 121, 95, 111, 112, 115]⟩] else []) ++ (if u then [⟨#[117, 115, 101]⟩] else []) ++ [⟨#[107]⟩]
theorem nine {w : World} {x : Nat} {T : TypeId} {a b c d e f g h i : Value} (hb : Blk w x T #[a, b, c, d, e, f, g, h, i]) : w.cell? ⟨x, 0, none⟩ = some a ∧ w.cell? ⟨x, 1, none⟩ = some b ∧ w.cell? ⟨x, 2, none⟩ = some c ∧ w.cell? ⟨x, 3, none⟩ = some d ∧ w.cell? ⟨x, 4, none⟩ = some e ∧ w.cell? ⟨x, 5, none⟩ = some f ∧ w.cell? ⟨x, 6, none⟩ = some g ∧ w.cell? ⟨x, 7, none⟩ = some h ∧ w.cell? ⟨x, 8, none⟩ = some i :=
  ⟨by rw [hb.cell]; rfl, by rw [hb.cell]; rfl, by rw [hb.cell]; rfl, by rw [hb.cell]; rfl, by rw [hb.cell]; rfl, by rw [hb.cell]; rfl, by rw [hb.cell]; rfl, by rw [hb.cell]; rfl, by rw [hb.cell]; rfl⟩
theorem one_new (w : World) (T : TypeId) (v : Value) : ∀ k u, [v][k]? = some u → (w.alloc (.cells #[v] T)).cell? ((⟨w.heap.size, 0, none⟩ : Addr).add k) = some u := fun k u hu => by
  have hk : k = 0 := by
    have := (List.getElem?_eq_some_iff.1 hu).1
    simpa using this
  subst hk
  have hu' : u = v := by simpa using hu.symm
  subst hu'
  rw [show (⟨w.heap.size, 0, none⟩ : Addr).add 0 = ⟨w.heap.size, 0, none⟩ from by unfold Addr.add; simp, (Blk.new w T #[u]).cell]
  rfl
theorem mnil {w : World} {m : Nat} (h : MapN (fun _ => False) w m) : MapL w m [] := by
  obtain ⟨L, hL, hq⟩ := h
  have hL0 : L = [] := by cases L with | nil => rfl | cons a r => exact (hq a (by simp)).elim
  exact hL0 ▸ hL
theorem own_below0 {w w' : World} (hg : w.grownBy w' none) : Below w.heap.size w w' :=
  ⟨hg.os, hg.tape, hg.output, hg.size, fun k hk => hg.block k hk (fun e => by cases e)⟩
/-- What is known between two appends of Keys. -/
def KK (w0 w : World) (x : Nat) (cs : Array Value) (v : Value) (n : Nat) (xs : List Value) : Prop := w.ownsRow w0.heap.size 9 1 v n xs ∧ Below w0.heap.size w0 w ∧ Blk w x 144 cs
theorem KK.app {ops : Array Oper} {rest : List Oper} {o : Oper} {a : Act} {Q : Exit → Act → World → Prop} {w0 w : World} {x n c : Nat} {A : Option Addr} {cs : Array Value} {xs : List Value} {s : ByteArray} {i0 : TypeInfo}
    (h : KK w0 w x cs (.slice A n c) n xs) (hx : x < w0.heap.size) (HI : Tryd.prog.info? 9 = some i0 ∧ i0.zero = some (.string ByteArray.empty) ∧ i0.size = 1 ∧ i0.bytes = 16) (hn : n < 100) (hgd : o.guard = none) (s1 s2 : Operand)
    (ho : o.op = .call { callee := .builtin .append, args := #[s1, s2], argTypes := #[35, 35] }) (hs : a.eval s1 = .slice A n c) (he : a.eval s2 = .slice (some ⟨w.heap.size, 0, none⟩) 1 1)
    (hq : ∀ A' c' w8, KK w0 w8 x cs (.slice A' (n + 1) c') (n + 1) (xs ++ [.string s]) → wpList Tryd.prog ops Q rest (a.put o.dst (.slice A' (n + 1) c')) w8) : wpList Tryd.prog ops Q (o :: rest) a (w.alloc (.cells #[.string s] 9)) := by
  obtain ⟨h1, h2, h3⟩ := h
  have h1' : (w.alloc (.cells #[.string s] 9)).ownsRow w0.heap.size 9 1 (.slice A n c) n xs := own_keep h1 (fun j cs hb => hb.alloc _)
  have hsz := h2.size
  have hsz' : w0.heap.size ≤ (w.alloc (.cells #[.string s] 9)).heap.size := by simp only [World.size_alloc]; omega
  refine wpList_append_own _ hgd s1 s2 35 ho w0.heap.size 9 i0 (.string ByteArray.empty) 1 16 Tryd.underlying35 HI.1 HI.2.1 HI.2.2.1 HI.2.2.2 rfl (by decide) _ n xs hs h1' ⟨w.heap.size, 0, none⟩ 1 1 [.string s] he rfl (one_new _ _ _) (by intro u hu; rw [List.mem_singleton.1 hu]; rfl) (by unfold maxLen; omega) (by omega) hsz' ?_
  intro v' w8 hown hg _
  obtain ⟨A', c', rfl⟩ := own_slice hown
  have hb : Below w0.heap.size w0 w8 := (below_alloc' h2 _).trans (own_low h1' hg hsz')
  exact hq A' c' w8 ⟨hown, hb, (h3.alloc _).below (own_low h1' hg hsz') hx⟩
theorem KK.make {w w' : World} {x : Nat} {cs : Array Value} {v : Value} (h : Blk w x 144 cs) (ho : w'.ownsRow w.heap.size 9 1 v 0 []) (hg : w.grownBy w' none) : KK w w' x cs v 0 [] :=
  ⟨ho, own_below0 hg, h.below (own_below0 hg) h.lt⟩
section
variable {w w' : World} {x m : Nat} {f : FV}
set_option maxRecDepth 100000 in
set_option maxHeartbeats 8000000 in
theorem KKeys_calls {ad : Addr} {n c : Nat} (h : FKC w x m f (.slice (some ad) n c)) :
    Calls Tryd.prog 108 #[.pointer (some ⟨x, 0, none⟩)] w fun e w' => ∃ A c', e = .returned (.slice A (nmF f.alg.isSome f.kid.isSome f.ops.isSome f.use.isSome).length c') ∧ w'.ownsRow w.heap.size 9 1 (.slice A (nmF f.alg.isSome f.kid.isSome f.ops.isSome f.use.isSome).length c') (nmF f.alg.isSome f.kid.isSome f.ops.isSome f.use.isSome).length ((nmF f.alg.isSome f.kid.isSome f.ops.isSome f.use.isSome).map Value.string) ∧ Below w.heap.size w w' := by
  obtain ⟨i0, hi, hz0, hz1, hz2⟩ := info_parts infoStr
  have HI := Lib.hid (And.intro hi (And.intro hz0 (And.intro hz1 hz2)))
  have hE : ∀ W : World, Sem.run Tryd.prog (binOp .neq 22 (.slice (some ad) n c) (.slice none 0 0)) W = .ok (.bool true) W := fun W => by kernel_rfl
  obtain ⟨pa, pk, po, pu, h1, h2, h3, h4, h5, h6⟩ := h
  obtain ⟨alg, kid, ops, use⟩ := f
  have HM := Lib.hid h6
  simp only at h2 h3 h4 h5 ⊢
  have hp : ∀ {T : TypeId} {p : Value} {o : Option Value}, OptP w T p o → (o.isSome = false ∧ p = .pointer none) ∨ (o.isSome = true ∧ ∃ b, p = .pointer (some b)) := by
    intro T p o h
    cases o with
    | none => exact .inl ⟨rfl, h⟩
    | some v => obtain ⟨b, h1, _⟩ := h; exact .inr ⟨rfl, _, h1⟩
  have hlen : ∀ ty : TypeId, Sem.run Tryd.prog (Builtin.len_ #[139] ty #[.map (some m)]) w = .ok (.int .i64 0) w := fun ty => by
    obtain ⟨L, hL, hq⟩ := HM.out
    have hL0 : L = [] := by cases L with | nil => rfl | cons a r => exact (hq a (by simp)).elim
    obtain ⟨es, c, hb, _, hle⟩ := hL
    subst hL0
    have h0 : es.size = 0 := by have := congrArg List.length hle; simpa using this
    have := run_len_map (P := Tryd.prog) w 139 ty m es c (by kernel_rfl) hb
    rw [h0] at this
    exact this
  have HK := Lib.hid h1
  obtain ⟨c0, c1, c2, c3, c4, c5, c6, c7, c8⟩ := nine h1
  have hwB : Below w.heap.size w w := Below.refl _ _
  have HXL := Lib.hid h1.lt
  clear h1 h6 hi hz0 hz1 hz2 hwB
  rcases hp h2 with ⟨ea, rfl⟩ | ⟨ea, ba, rfl⟩ <;> rcases hp h3 with ⟨ek, rfl⟩ | ⟨ek, bk, rfl⟩ <;> rcases hp h4 with ⟨eo, rfl⟩ | ⟨eo, bo, rfl⟩ <;> rcases hp h5 with ⟨eu, rfl⟩ | ⟨eu, bu, rfl⟩ <;> rw [ea, ek, eo, eu] <;> clear hp h2 h3 h4 h5 ea ek eo eu
  · go_enter Tryd.func108, Tryd.ntmps108
    go_wp2_with (first | (at_make; refine wpList_make_own _ rfl _ _ 35 rfl w.heap.size 9 i0 (.string ByteArray.empty) 1 Tryd.underlying35 HI.out.1 HI.out.2.1 HI.out.2.2.1 .i64 .i64 _ 9 rfl rfl (by rfl) (by rw [HI.out.2.2.2]; omega) (by unfold maxLen; omega) (Nat.le_refl _) ?_; intro w0 hown hg0; clear c0 c1 c2 c3 c4 c5 c6 c7 c8; have HO := Lib.hid (KK.make HK.out hown hg0); clear hown hg0; obtain ⟨c0, c1, c2, c3, c4, c5, c6, c7, c8⟩ := nine HO.out.2.2) | (at_builtin; refine KK.app HO.out HXL.out HI.out (by omega) rfl _ _ rfl rfl rfl ?_; intro vA vc w8 hk; clear HO c0 c1 c2 c3 c4 c5 c6 c7 c8; (try clear HR hrng); have HO := Lib.hid hk; clear hk; obtain ⟨c0, c1, c2, c3, c4, c5, c6, c7, c8⟩ := nine HO.out.2.2; obtain ⟨w9, hrng, hR, hg9, hs9⟩ := run_range (P := Tryd.prog) (mty := 139) Tryd.underlying139 w8 m [] (mnil (HM.out.fr (Fr.of_below (bad := fun _ => False) HO.out.2.1))); have HR := Lib.hid (And.intro hR (And.intro hg9 hs9)); clear hR hg9 hs9))
    have HKE := Lib.hid (And.intro HO.out.1 HO.out.2.1)
    have hrun : (Instr.next (.pointer (some ⟨w8.heap.size, 0, none⟩)) false 0).run Tryd.prog w9 = .ok (.tuple #[.bool false]) w9 := by
      rcases HR.out.1.next (P := Tryd.prog) 0 (by simp) with ⟨_, h⟩ | ⟨p, hp, _⟩
      · exact h
      · cases hp
    have HG := Lib.hid HR.out.2
    clear c0 c1 c2 c3 c4 c5 c6 c7 c8 HO HK HR hrng
    refine wp_loop_rounds 1 ?_
    rw [rounds_succ]
    go_wp2
    go_ret
    have hg := HG.out.1
    have hk := own_keep HKE.out.1 (fun j cs hb => hb.grown hg (fun e => by cases e))
    exact ⟨vA, vc, rfl, hk, HKE.out.2.trans ⟨hg.os, hg.tape, hg.output, hg.size, fun k hk => hg.block k (by have := HKE.out.2.size; omega) (fun e => by cases e)⟩⟩
  · go_enter Tryd.func108, Tryd.ntmps108
    go_wp2_with (first | (at_make; refine wpList_make_own _ rfl _ _ 35 rfl w.heap.size 9 i0 (.string ByteArray.empty) 1 Tryd.underlying35 HI.out.1 HI.out.2.1 HI.out.2.2.1 .i64 .i64 _ 9 rfl rfl (by rfl) (by rw [HI.out.2.2.2]; omega) (by unfold maxLen; omega) (Nat.le_refl _) ?_; intro w0 hown hg0; clear c0 c1 c2 c3 c4 c5 c6 c7 c8; have HO := Lib.hid (KK.make HK.out hown hg0); clear hown hg0; obtain ⟨c0, c1, c2, c3, c4, c5, c6, c7, c8⟩ := nine HO.out.2.2) | (at_builtin; refine KK.app HO.out HXL.out HI.out (by omega) rfl _ _ rfl rfl rfl ?_; intro vA vc w8 hk; clear HO c0 c1 c2 c3 c4 c5 c6 c7 c8; (try clear HR hrng); have HO := Lib.hid hk; clear hk; obtain ⟨c0, c1, c2, c3, c4, c5, c6, c7, c8⟩ := nine HO.out.2.2; obtain ⟨w9, hrng, hR, hg9, hs9⟩ := run_range (P := Tryd.prog) (mty := 139) Tryd.underlying139 w8 m [] (mnil (HM.out.fr (Fr.of_below (bad := fun _ => False) HO.out.2.1))); have HR := Lib.hid (And.intro hR (And.intro hg9 hs9)); clear hR hg9 hs9))
    have HKE := Lib.hid (And.intro HO.out.1 HO.out.2.1)
    have hrun : (Instr.next (.pointer (some ⟨w8.heap.size, 0, none⟩)) false 0).run Tryd.prog w9 = .ok (.tuple #[.bool false]) w9 := by
      rcases HR.out.1.next (P := Tryd.prog) 0 (by simp) with ⟨_, h⟩ | ⟨p, hp, _⟩
      · exact h
      · cases hp
    have HG := Lib.hid HR.out.2
    clear c0 c1 c2 c3 c4 c5 c6 c7 c8 HO HK HR hrng
    refine wp_loop_rounds 1 ?_
    rw [rounds_succ]
    go_wp2
    go_ret
    have hg := HG.out.1
    have hk := own_keep HKE.out.1 (fun j cs hb => hb.grown hg (fun e => by cases e))
    exact ⟨vA, vc, rfl, hk, HKE.out.2.trans ⟨hg.os, hg.tape, hg.output, hg.size, fun k hk => hg.block k (by have := HKE.out.2.size; omega) (fun e => by cases e)⟩⟩
  · go_enter Tryd.func108, Tryd.ntmps108
    go_wp2_with (first | (at_make; refine wpList_make_own _ rfl _ _ 35 rfl w.heap.size 9 i0 (.string ByteArray.empty) 1 Tryd.underlying35 HI.out.1 HI.out.2.1 HI.out.2.2.1 .i64 .i64 _ 9 rfl rfl (by rfl) (by rw [HI.out.2.2.2]; omega) (by unfold maxLen; omega) (Nat.le_refl _) ?_; intro w0 hown hg0; clear c0 c1 c2 c3 c4 c5 c6 c7 c8; have HO := Lib.hid (KK.make HK.out hown hg0); clear hown hg0; obtain ⟨c0, c1, c2, c3, c4, c5, c6, c7, c8⟩ := nine HO.out.2.2) | (at_builtin; refine KK.app HO.out HXL.out HI.out (by omega) rfl _ _ rfl rfl rfl ?_; intro vA vc w8 hk; clear HO c0 c1 c2 c3 c4 c5 c6 c7 c8; (try clear HR hrng); have HO := Lib.hid hk; clear hk; obtain ⟨c0, c1, c2, c3, c4, c5, c6, c7, c8⟩ := nine HO.out.2.2; obtain ⟨w9, hrng, hR, hg9, hs9⟩ := run_range (P := Tryd.prog) (mty := 139) Tryd.underlying139 w8 m [] (mnil (HM.out.fr (Fr.of_below (bad := fun _ => False) HO.out.2.1))); have HR := Lib.hid (And.intro hR (And.intro hg9 hs9)); clear hR hg9 hs9))
    have HKE := Lib.hid (And.intro HO.out.1 HO.out.2.1)
    have hrun : (Instr.next (.pointer (some ⟨w8.heap.size, 0, none⟩)) false 0).run Tryd.prog w9 = .ok (.tuple #[.bool false]) w9 := by
      rcases HR.out.1.next (P := Tryd.prog) 0 (by simp) with ⟨_, h⟩ | ⟨p, hp, _⟩
      · exact h
      · cases hp
    have HG := Lib.hid HR.out.2
    clear c0 c1 c2 c3 c4 c5 c6 c7 c8 HO HK HR hrng
    refine wp_loop_rounds 1 ?_
    rw [rounds_succ]
    go_wp2
    go_ret
    have hg := HG.out.1
    have hk := own_keep HKE.out.1 (fun j cs hb => hb.grown hg (fun e => by cases e))
    exact ⟨vA, vc, rfl, hk, HKE.out.2.trans ⟨hg.os, hg.tape, hg.output, hg.size, fun k hk => hg.block k (by have := HKE.out.2.size; omega) (fun e => by cases e)⟩⟩
  · go_enter Tryd.func108, Tryd.ntmps108
    go_wp2_with (first | (at_make; refine wpList_make_own _ rfl _ _ 35 rfl w.heap.size 9 i0 (.string ByteArray.empty) 1 Tryd.underlying35 HI.out.1 HI.out.2.1 HI.out.2.2.1 .i64 .i64 _ 9 rfl rfl (by rfl) (by rw [HI.out.2.2.2]; omega) (by unfold maxLen; omega) (Nat.le_refl _) ?_; intro w0 hown hg0; clear c0 c1 c2 c3 c4 c5 c6 c7 c8; have HO := Lib.hid (KK.make HK.out hown hg0); clear hown hg0; obtain ⟨c0, c1, c2, c3, c4, c5, c6, c7, c8⟩ := nine HO.out.2.2) | (at_builtin; refine KK.app HO.out HXL.out HI.out (by omega) rfl _ _ rfl rfl rfl ?_; intro vA vc w8 hk; clear HO c0 c1 c2 c3 c4 c5 c6 c7 c8; (try clear HR hrng); have HO := Lib.hid hk; clear hk; obtain ⟨c0, c1, c2, c3, c4, c5, c6, c7, c8⟩ := nine HO.out.2.2; obtain ⟨w9, hrng, hR, hg9, hs9⟩ := run_range (P := Tryd.prog) (mty := 139) Tryd.underlying139 w8 m [] (mnil (HM.out.fr (Fr.of_below (bad := fun _ => False) HO.out.2.1))); have HR := Lib.hid (And.intro hR (And.intro hg9 hs9)); clear hR hg9 hs9))
    have HKE := Lib.hid (And.intro HO.out.1 HO.out.2.1)
    have hrun : (Instr.next (.pointer (some ⟨w8.heap.size, 0, none⟩)) false 0).run Tryd.prog w9 = .ok (.tuple #[.bool false]) w9 := by
      rcases HR.out.1.next (P := Tryd.prog) 0 (by simp) with ⟨_, h⟩ | ⟨p, hp, _⟩
      · exact h
      · cases hp
    have HG := Lib.hid HR.out.2
    clear c0 c1 c2 c3 c4 c5 c6 c7 c8 HO HK HR hrng
    refine wp_loop_rounds 1 ?_
    rw [rounds_succ]
    go_wp2
    go_ret
    have hg := HG.out.1
    have hk := own_keep HKE.out.1 (fun j cs hb => hb.grown hg (fun e => by cases e))
    exact ⟨vA, vc, rfl, hk, HKE.out.2.trans ⟨hg.os, hg.tape, hg.output, hg.size, fun k hk => hg.block k (by have := HKE.out.2.size; omega) (fun e => by cases e)⟩⟩
  · go_enter Tryd.func108, Tryd.ntmps108
    go_wp2_with (first | (at_make; refine wpList_make_own _ rfl _ _ 35 rfl w.heap.size 9 i0 (.string ByteArray.empty) 1 Tryd.underlying35 HI.out.1 HI.out.2.1 HI.out.2.2.1 .i64 .i64 _ 9 rfl rfl (by rfl) (by rw [HI.out.2.2.2]; omega) (by unfold maxLen; omega) (Nat.le_refl _) ?_; intro w0 hown hg0; clear c0 c1 c2 c3 c4 c5 c6 c7 c8; have HO := Lib.hid (KK.make HK.out hown hg0); clear hown hg0; obtain ⟨c0, c1, c2, c3, c4, c5, c6, c7, c8⟩ := nine HO.out.2.2) | (at_builtin; refine KK.app HO.out HXL.out HI.out (by omega) rfl _ _ rfl rfl rfl ?_; intro vA vc w8 hk; clear HO c0 c1 c2 c3 c4 c5 c6 c7 c8; (try clear HR hrng); have HO := Lib.hid hk; clear hk; obtain ⟨c0, c1, c2, c3, c4, c5, c6, c7, c8⟩ := nine HO.out.2.2; obtain ⟨w9, hrng, hR, hg9, hs9⟩ := run_range (P := Tryd.prog) (mty := 139) Tryd.underlying139 w8 m [] (mnil (HM.out.fr (Fr.of_below (bad := fun _ => False) HO.out.2.1))); have HR := Lib.hid (And.intro hR (And.intro hg9 hs9)); clear hR hg9 hs9))
    have HKE := Lib.hid (And.intro HO.out.1 HO.out.2.1)
    have hrun : (Instr.next (.pointer (some ⟨w8.heap.size, 0, none⟩)) false 0).run Tryd.prog w9 = .ok (.tuple #[.bool false]) w9 := by
      rcases HR.out.1.next (P := Tryd.prog) 0 (by simp) with ⟨_, h⟩ | ⟨p, hp, _⟩
      · exact h
      · cases hp
    have HG := Lib.hid HR.out.2
    clear c0 c1 c2 c3 c4 c5 c6 c7 c8 HO HK HR hrng
    refine wp_loop_rounds 1 ?_
    rw [rounds_succ]
    go_wp2
    go_ret
    have hg := HG.out.1
    have hk := own_keep HKE.out.1 (fun j cs hb => hb.grown hg (fun e => by cases e))
    exact ⟨vA, vc, rfl, hk, HKE.out.2.trans ⟨hg.os, hg.tape, hg.output, hg.size, fun k hk => hg.block k (by have := HKE.out.2.size; omega) (fun e => by cases e)⟩⟩
  · go_enter Tryd.func108, Tryd.ntmps108
    go_wp2_with (first | (at_make; refine wpList_make_own _ rfl _ _ 35 rfl w.heap.size 9 i0 (.string ByteArray.empty) 1 Tryd.underlying35 HI.out.1 HI.out.2.1 HI.out.2.2.1 .i64 .i64 _ 9 rfl rfl (by rfl) (by rw [HI.out.2.2.2]; omega) (by unfold maxLen; omega) (Nat.le_refl _) ?_; intro w0 hown hg0; clear c0 c1 c2 c3 c4 c5 c6 c7 c8; have HO := Lib.hid (KK.make HK.out hown hg0); clear hown hg0; obtain ⟨c0, c1, c2, c3, c4, c5, c6, c7, c8⟩ := nine HO.out.2.2) | (at_builtin; refine KK.app HO.out HXL.out HI.out (by omega) rfl _ _ rfl rfl rfl ?_; intro vA vc w8 hk; clear HO c0 c1 c2 c3 c4 c5 c6 c7 c8; (try clear HR hrng); have HO := Lib.hid hk; clear hk; obtain ⟨c0, c1, c2, c3, c4, c5, c6, c7, c8⟩ := nine HO.out.2.2; obtain ⟨w9, hrng, hR, hg9, hs9⟩ := run_range (P := Tryd.prog) (mty := 139) Tryd.underlying139 w8 m [] (mnil (HM.out.fr (Fr.of_below (bad := fun _ => False) HO.out.2.1))); have HR := Lib.hid (And.intro hR (And.intro hg9 hs9)); clear hR hg9 hs9))
    have HKE := Lib.hid (And.intro HO.out.1 HO.out.2.1)
    have hrun : (Instr.next (.pointer (some ⟨w8.heap.size, 0, none⟩)) false 0).run Tryd.prog w9 = .ok (.tuple #[.bool false]) w9 := by
      rcases HR.out.1.next (P := Tryd.prog) 0 (by simp) with ⟨_, h⟩ | ⟨p, hp, _⟩
      · exact h
      · cases hp
    have HG := Lib.hid HR.out.2
    clear c0 c1 c2 c3 c4 c5 c6 c7 c8 HO HK HR hrng
    refine wp_loop_rounds 1 ?_
    rw [rounds_succ]
    go_wp2
    go_ret
    have hg := HG.out.1
    have hk := own_keep HKE.out.1 (fun j cs hb => hb.grown hg (fun e => by cases e))
    exact ⟨vA, vc, rfl, hk, HKE.out.2.trans ⟨hg.os, hg.tape, hg.output, hg.size, fun k hk => hg.block k (by have := HKE.out.2.size; omega) (fun e => by cases e)⟩⟩
  · go_enter Tryd.func108, Tryd.ntmps108
    go_wp2_with (first | (at_make; refine wpList_make_own _ rfl _ _ 35 rfl w.heap.size 9 i0 (.string ByteArray.empty) 1 Tryd.underlying35 HI.out.1 HI.out.2.1 HI.out.2.2.1 .i64 .i64 _ 9 rfl rfl (by rfl) (by rw [HI.out.2.2.2]; omega) (by unfold maxLen; omega) (Nat.le_refl _) ?_; intro w0 hown hg0; clear c0 c1 c2 c3 c4 c5 c6 c7 c8; have HO := Lib.hid (KK.make HK.out hown hg0); clear hown hg0; obtain ⟨c0, c1, c2, c3, c4, c5, c6, c7, c8⟩ := nine HO.out.2.2) | (at_builtin; refine KK.app HO.out HXL.out HI.out (by omega) rfl _ _ rfl rfl rfl ?_; intro vA vc w8 hk; clear HO c0 c1 c2 c3 c4 c5 c6 c7 c8; (try clear HR hrng); have HO := Lib.hid hk; clear hk; obtain ⟨c0, c1, c2, c3, c4, c5, c6, c7, c8⟩ := nine HO.out.2.2; obtain ⟨w9, hrng, hR, hg9, hs9⟩ := run_range (P := Tryd.prog) (mty := 139) Tryd.underlying139 w8 m [] (mnil (HM.out.fr (Fr.of_below (bad := fun _ => False) HO.out.2.1))); have HR := Lib.hid (And.intro hR (And.intro hg9 hs9)); clear hR hg9 hs9))
    have HKE := Lib.hid (And.intro HO.out.1 HO.out.2.1)
    have hrun : (Instr.next (.pointer (some ⟨w8.heap.size, 0, none⟩)) false 0).run Tryd.prog w9 = .ok (.tuple #[.bool false]) w9 := by
      rcases HR.out.1.next (P := Tryd.prog) 0 (by simp) with ⟨_, h⟩ | ⟨p, hp, _⟩
      · exact h
      · cases hp
    have HG := Lib.hid HR.out.2
    clear c0 c1 c2 c3 c4 c5 c6 c7 c8 HO HK HR hrng
    refine wp_loop_rounds 1 ?_
    rw [rounds_succ]
    go_wp2
    go_ret
    have hg := HG.out.1
    have hk := own_keep HKE.out.1 (fun j cs hb => hb.grown hg (fun e => by cases e))
    exact ⟨vA, vc, rfl, hk, HKE.out.2.trans ⟨hg.os, hg.tape, hg.output, hg.size, fun k hk => hg.block k (by have := HKE.out.2.size; omega) (fun e => by cases e)⟩⟩
  · go_enter Tryd.func108, Tryd.ntmps108
    go_wp2_with (first | (at_make; refine wpList_make_own _ rfl _ _ 35 rfl w.heap.size 9 i0 (.string ByteArray.empty) 1 Tryd.underlying35 HI.out.1 HI.out.2.1 HI.out.2.2.1 .i64 .i64 _ 9 rfl rfl (by rfl) (by rw [HI.out.2.2.2]; omega) (by unfold maxLen; omega) (Nat.le_refl _) ?_; intro w0 hown hg0; clear c0 c1 c2 c3 c4 c5 c6 c7 c8; have HO := Lib.hid (KK.make HK.out hown hg0); clear hown hg0; obtain ⟨c0, c1, c2, c3, c4, c5, c6, c7, c8⟩ := nine HO.out.2.2) | (at_builtin; refine KK.app HO.out HXL.out HI.out (by omega) rfl _ _ rfl rfl rfl ?_; intro vA vc w8 hk; clear HO c0 c1 c2 c3 c4 c5 c6 c7 c8; (try clear HR hrng); have HO := Lib.hid hk; clear hk; obtain ⟨c0, c1, c2, c3, c4, c5, c6, c7, c8⟩ := nine HO.out.2.2; obtain ⟨w9, hrng, hR, hg9, hs9⟩ := run_range (P := Tryd.prog) (mty := 139) Tryd.underlying139 w8 m [] (mnil (HM.out.fr (Fr.of_below (bad := fun _ => False) HO.out.2.1))); have HR := Lib.hid (And.intro hR (And.intro hg9 hs9)); clear hR hg9 hs9))
    have HKE := Lib.hid (And.intro HO.out.1 HO.out.2.1)
    have hrun : (Instr.next (.pointer (some ⟨w8.heap.size, 0, none⟩)) false 0).run Tryd.prog w9 = .ok (.tuple #[.bool false]) w9 := by
      rcases HR.out.1.next (P := Tryd.prog) 0 (by simp) with ⟨_, h⟩ | ⟨p, hp, _⟩
      · exact h
      · cases hp
    have HG := Lib.hid HR.out.2
    clear c0 c1 c2 c3 c4 c5 c6 c7 c8 HO HK HR hrng
    refine wp_loop_rounds 1 ?_
    rw [rounds_succ]
    go_wp2
    go_ret
    have hg := HG.out.1
    have hk := own_keep HKE.out.1 (fun j cs hb => hb.grown hg (fun e => by cases e))
    exact ⟨vA, vc, rfl, hk, HKE.out.2.trans ⟨hg.os, hg.tape, hg.output, hg.size, fun k hk => hg.block k (by have := HKE.out.2.size; omega) (fun e => by cases e)⟩⟩
  · go_enter Tryd.func108, Tryd.ntmps108
    go_wp2_with (first | (at_make; refine wpList_make_own _ rfl _ _ 35 rfl w.heap.size 9 i0 (.string ByteArray.empty) 1 Tryd.underlying35 HI.out.1 HI.out.2.1 HI.out.2.2.1 .i64 .i64 _ 9 rfl rfl (by rfl) (by rw [HI.out.2.2.2]; omega) (by unfold maxLen; omega) (Nat.le_refl _) ?_; intro w0 hown hg0; clear c0 c1 c2 c3 c4 c5 c6 c7 c8; have HO := Lib.hid (KK.make HK.out hown hg0); clear hown hg0; obtain ⟨c0, c1, c2, c3, c4, c5, c6, c7, c8⟩ := nine HO.out.2.2) | (at_builtin; refine KK.app HO.out HXL.out HI.out (by omega) rfl _ _ rfl rfl rfl ?_; intro vA vc w8 hk; clear HO c0 c1 c2 c3 c4 c5 c6 c7 c8; (try clear HR hrng); have HO := Lib.hid hk; clear hk; obtain ⟨c0, c1, c2, c3, c4, c5, c6, c7, c8⟩ := nine HO.out.2.2; obtain ⟨w9, hrng, hR, hg9, hs9⟩ := run_range (P := Tryd.prog) (mty := 139) Tryd.underlying139 w8 m [] (mnil (HM.out.fr (Fr.of_below (bad := fun _ => False) HO.out.2.1))); have HR := Lib.hid (And.intro hR (And.intro hg9 hs9)); clear hR hg9 hs9))
    have HKE := Lib.hid (And.intro HO.out.1 HO.out.2.1)
    have hrun : (Instr.next (.pointer (some ⟨w8.heap.size, 0, none⟩)) false 0).run Tryd.prog w9 = .ok (.tuple #[.bool false]) w9 := by
      rcases HR.out.1.next (P := Tryd.prog) 0 (by simp) with ⟨_, h⟩ | ⟨p, hp, _⟩
      · exact h
      · cases hp
    have HG := Lib.hid HR.out.2
    clear c0 c1 c2 c3 c4 c5 c6 c7 c8 HO HK HR hrng
    refine wp_loop_rounds 1 ?_
    rw [rounds_succ]
    go_wp2
    go_ret
    have hg := HG.out.1
    have hk := own_keep HKE.out.1 (fun j cs hb => hb.grown hg (fun e => by cases e))
    exact ⟨vA, vc, rfl, hk, HKE.out.2.trans ⟨hg.os, hg.tape, hg.output, hg.size, fun k hk => hg.block k (by have := HKE.out.2.size; omega) (fun e => by cases e)⟩⟩
  · go_enter Tryd.func108, Tryd.ntmps108
    go_wp2_with (first | (at_make; refine wpList_make_own _ rfl _ _ 35 rfl w.heap.size 9 i0 (.string ByteArray.empty) 1 Tryd.underlying35 HI.out.1 HI.out.2.1 HI.out.2.2.1 .i64 .i64 _ 9 rfl rfl (by rfl) (by rw [HI.out.2.2.2]; omega) (by unfold maxLen; omega) (Nat.le_refl _) ?_; intro w0 hown hg0; clear c0 c1 c2 c3 c4 c5 c6 c7 c8; have HO := Lib.hid (KK.make HK.out hown hg0); clear hown hg0; obtain ⟨c0, c1, c2, c3, c4, c5, c6, c7, c8⟩ := nine HO.out.2.2) | (at_builtin; refine KK.app HO.out HXL.out HI.out (by omega) rfl _ _ rfl rfl rfl ?_; intro vA vc w8 hk; clear HO c0 c1 c2 c3 c4 c5 c6 c7 c8; (try clear HR hrng); have HO := Lib.hid hk; clear hk; obtain ⟨c0, c1, c2, c3, c4, c5, c6, c7, c8⟩ := nine HO.out.2.2; obtain ⟨w9, hrng, hR, hg9, hs9⟩ := run_range (P := Tryd.prog) (mty := 139) Tryd.underlying139 w8 m [] (mnil (HM.out.fr (Fr.of_below (bad := fun _ => False) HO.out.2.1))); have HR := Lib.hid (And.intro hR (And.intro hg9 hs9)); clear hR hg9 hs9))
    have HKE := Lib.hid (And.intro HO.out.1 HO.out.2.1)
    have hrun : (Instr.next (.pointer (some ⟨w8.heap.size, 0, none⟩)) false 0).run Tryd.prog w9 = .ok (.tuple #[.bool false]) w9 := by
      rcases HR.out.1.next (P := Tryd.prog) 0 (by simp) with ⟨_, h⟩ | ⟨p, hp, _⟩
      · exact h
      · cases hp
    have HG := Lib.hid HR.out.2
    clear c0 c1 c2 c3 c4 c5 c6 c7 c8 HO HK HR hrng
    refine wp_loop_rounds 1 ?_
    rw [rounds_succ]
    go_wp2
    go_ret
    have hg := HG.out.1
    have hk := own_keep HKE.out.1 (fun j cs hb => hb.grown hg (fun e => by cases e))
    exact ⟨vA, vc, rfl, hk, HKE.out.2.trans ⟨hg.os, hg.tape, hg.output, hg.size, fun k hk => hg.block k (by have := HKE.out.2.size; omega) (fun e => by cases e)⟩⟩
  · go_enter Tryd.func108, Tryd.ntmps108
    go_wp2_with (first | (at_make; refine wpList_make_own _ rfl _ _ 35 rfl w.heap.size 9 i0 (.string ByteArray.empty) 1 Tryd.underlying35 HI.out.1 HI.out.2.1 HI.out.2.2.1 .i64 .i64 _ 9 rfl rfl (by rfl) (by rw [HI.out.2.2.2]; omega) (by unfold maxLen; omega) (Nat.le_refl _) ?_; intro w0 hown hg0; clear c0 c1 c2 c3 c4 c5 c6 c7 c8; have HO := Lib.hid (KK.make HK.out hown hg0); clear hown hg0; obtain ⟨c0, c1, c2, c3, c4, c5, c6, c7, c8⟩ := nine HO.out.2.2) | (at_builtin; refine KK.app HO.out HXL.out HI.out (by omega) rfl _ _ rfl rfl rfl ?_; intro vA vc w8 hk; clear HO c0 c1 c2 c3 c4 c5 c6 c7 c8; (try clear HR hrng); have HO := Lib.hid hk; clear hk; obtain ⟨c0, c1, c2, c3, c4, c5, c6, c7, c8⟩ := nine HO.out.2.2; obtain ⟨w9, hrng, hR, hg9, hs9⟩ := run_range (P := Tryd.prog) (mty := 139) Tryd.underlying139 w8 m [] (mnil (HM.out.fr (Fr.of_below (bad := fun _ => False) HO.out.2.1))); have HR := Lib.hid (And.intro hR (And.intro hg9 hs9)); clear hR hg9 hs9))
    have HKE := Lib.hid (And.intro HO.out.1 HO.out.2.1)
    have hrun : (Instr.next (.pointer (some ⟨w8.heap.size, 0, none⟩)) false 0).run Tryd.prog w9 = .ok (.tuple #[.bool false]) w9 := by
      rcases HR.out.1.next (P := Tryd.prog) 0 (by simp) with ⟨_, h⟩ | ⟨p, hp, _⟩
      · exact h
      · cases hp
    have HG := Lib.hid HR.out.2
    clear c0 c1 c2 c3 c4 c5 c6 c7 c8 HO HK HR hrng
    refine wp_loop_rounds 1 ?_
    rw [rounds_succ]
    go_wp2
    go_ret
    have hg := HG.out.1
    have hk := own_keep HKE.out.1 (fun j cs hb => hb.grown hg (fun e => by cases e))
    exact ⟨vA, vc, rfl, hk, HKE.out.2.trans ⟨hg.os, hg.tape, hg.output, hg.size, fun k hk => hg.block k (by have := HKE.out.2.size; omega) (fun e => by cases e)⟩⟩
  · go_enter Tryd.func108, Tryd.ntmps108
    go_wp2_with (first | (at_make; refine wpList_make_own _ rfl _ _ 35 rfl w.heap.size 9 i0 (.string ByteArray.empty) 1 Tryd.underlying35 HI.out.1 HI.out.2.1 HI.out.2.2.1 .i64 .i64 _ 9 rfl rfl (by rfl) (by rw [HI.out.2.2.2]; omega) (by unfold maxLen; omega) (Nat.le_refl _) ?_; intro w0 hown hg0; clear c0 c1 c2 c3 c4 c5 c6 c7 c8; have HO := Lib.hid (KK.make HK.out hown hg0); clear hown hg0; obtain ⟨c0, c1, c2, c3, c4, c5, c6, c7, c8⟩ := nine HO.out.2.2) | (at_builtin; refine KK.app HO.out HXL.out HI.out (by omega) rfl _ _ rfl rfl rfl ?_; intro vA vc w8 hk; clear HO c0 c1 c2 c3 c4 c5 c6 c7 c8; (try clear HR hrng); have HO := Lib.hid hk; clear hk; obtain ⟨c0, c1, c2, c3, c4, c5, c6, c7, c8⟩ := nine HO.out.2.2; obtain ⟨w9, hrng, hR, hg9, hs9⟩ := run_range (P := Tryd.prog) (mty := 139) Tryd.underlying139 w8 m [] (mnil (HM.out.fr (Fr.of_below (bad := fun _ => False) HO.out.2.1))); have HR := Lib.hid (And.intro hR (And.intro hg9 hs9)); clear hR hg9 hs9))
    have HKE := Lib.hid (And.intro HO.out.1 HO.out.2.1)
    have hrun : (Instr.next (.pointer (some ⟨w8.heap.size, 0, none⟩)) false 0).run Tryd.prog w9 = .ok (.tuple #[.bool false]) w9 := by
      rcases HR.out.1.next (P := Tryd.prog) 0 (by simp) with ⟨_, h⟩ | ⟨p, hp, _⟩
      · exact h
      · cases hp
    have HG := Lib.hid HR.out.2
    clear c0 c1 c2 c3 c4 c5 c6 c7 c8 HO HK HR hrng
    refine wp_loop_rounds 1 ?_
    rw [rounds_succ]
    go_wp2
    go_ret
    have hg := HG.out.1
    have hk := own_keep HKE.out.1 (fun j cs hb => hb.grown hg (fun e => by cases e))
    exact ⟨vA, vc, rfl, hk, HKE.out.2.trans ⟨hg.os, hg.tape, hg.output, hg.size, fun k hk => hg.block k (by have := HKE.out.2.size; omega) (fun e => by cases e)⟩⟩
  · go_enter Tryd.func108, Tryd.ntmps108
    go_wp2_with (first | (at_make; refine wpList_make_own _ rfl _ _ 35 rfl w.heap.size 9 i0 (.string ByteArray.empty) 1 Tryd.underlying35 HI.out.1 HI.out.2.1 HI.out.2.2.1 .i64 .i64 _ 9 rfl rfl (by rfl) (by rw [HI.out.2.2.2]; omega) (by unfold maxLen; omega) (Nat.le_refl _) ?_; intro w0 hown hg0; clear c0 c1 c2 c3 c4 c5 c6 c7 c8; have HO := Lib.hid (KK.make HK.out hown hg0); clear hown hg0; obtain ⟨c0, c1, c2, c3, c4, c5, c6, c7, c8⟩ := nine HO.out.2.2) | (at_builtin; refine KK.app HO.out HXL.out HI.out (by omega) rfl _ _ rfl rfl rfl ?_; intro vA vc w8 hk; clear HO c0 c1 c2 c3 c4 c5 c6 c7 c8; (try clear HR hrng); have HO := Lib.hid hk; clear hk; obtain ⟨c0, c1, c2, c3, c4, c5, c6, c7, c8⟩ := nine HO.out.2.2; obtain ⟨w9, hrng, hR, hg9, hs9⟩ := run_range (P := Tryd.prog) (mty := 139) Tryd.underlying139 w8 m [] (mnil (HM.out.fr (Fr.of_below (bad := fun _ => False) HO.out.2.1))); have HR := Lib.hid (And.intro hR (And.intro hg9 hs9)); clear hR hg9 hs9))
    have HKE := Lib.hid (And.intro HO.out.1 HO.out.2.1)
    have hrun : (Instr.next (.pointer (some ⟨w8.heap.size, 0, none⟩)) false 0).run Tryd.prog w9 = .ok (.tuple #[.bool false]) w9 := by
      rcases HR.out.1.next (P := Tryd.prog) 0 (by simp) with ⟨_, h⟩ | ⟨p, hp, _⟩
      · exact h
      · cases hp
    have HG := Lib.hid HR.out.2
    clear c0 c1 c2 c3 c4 c5 c6 c7 c8 HO HK HR hrng
    refine wp_loop_rounds 1 ?_
    rw [rounds_succ]
    go_wp2
    go_ret
    have hg := HG.out.1
    have hk := own_keep HKE.out.1 (fun j cs hb => hb.grown hg (fun e => by cases e))
    exact ⟨vA, vc, rfl, hk, HKE.out.2.trans ⟨hg.os, hg.tape, hg.output, hg.size, fun k hk => hg.block k (by have := HKE.out.2.size; omega) (fun e => by cases e)⟩⟩
  · go_enter Tryd.func108, Tryd.ntmps108
    go_wp2_with (first | (at_make; refine wpList_make_own _ rfl _ _ 35 rfl w.heap.size 9 i0 (.string ByteArray.empty) 1 Tryd.underlying35 HI.out.1 HI.out.2.1 HI.out.2.2.1 .i64 .i64 _ 9 rfl rfl (by rfl) (by rw [HI.out.2.2.2]; omega) (by unfold maxLen; omega) (Nat.le_refl _) ?_; intro w0 hown hg0; clear c0 c1 c2 c3 c4 c5 c6 c7 c8; have HO := Lib.hid (KK.make HK.out hown hg0); clear hown hg0; obtain ⟨c0, c1, c2, c3, c4, c5, c6, c7, c8⟩ := nine HO.out.2.2) | (at_builtin; refine KK.app HO.out HXL.out HI.out (by omega) rfl _ _ rfl rfl rfl ?_; intro vA vc w8 hk; clear HO c0 c1 c2 c3 c4 c5 c6 c7 c8; (try clear HR hrng); have HO := Lib.hid hk; clear hk; obtain ⟨c0, c1, c2, c3, c4, c5, c6, c7, c8⟩ := nine HO.out.2.2; obtain ⟨w9, hrng, hR, hg9, hs9⟩ := run_range (P := Tryd.prog) (mty := 139) Tryd.underlying139 w8 m [] (mnil (HM.out.fr (Fr.of_below (bad := fun _ => False) HO.out.2.1))); have HR := Lib.hid (And.intro hR (And.intro hg9 hs9)); clear hR hg9 hs9))
    have HKE := Lib.hid (And.intro HO.out.1 HO.out.2.1)
    have hrun : (Instr.next (.pointer (some ⟨w8.heap.size, 0, none⟩)) false 0).run Tryd.prog w9 = .ok (.tuple #[.bool false]) w9 := by
      rcases HR.out.1.next (P := Tryd.prog) 0 (by simp) with ⟨_, h⟩ | ⟨p, hp, _⟩
      · exact h
      · cases hp
    have HG := Lib.hid HR.out.2
    clear c0 c1 c2 c3 c4 c5 c6 c7 c8 HO HK HR hrng
    refine wp_loop_rounds 1 ?_
    rw [rounds_succ]
    go_wp2
    go_ret
    have hg := HG.out.1
    have hk := own_keep HKE.out.1 (fun j cs hb => hb.grown hg (fun e => by cases e))
    exact ⟨vA, vc, rfl, hk, HKE.out.2.trans ⟨hg.os, hg.tape, hg.output, hg.size, fun k hk => hg.block k (by have := HKE.out.2.size; omega) (fun e => by cases e)⟩⟩
  · go_enter Tryd.func108, Tryd.ntmps108
    go_wp2_with (first | (at_make; refine wpList_make_own _ rfl _ _ 35 rfl w.heap.size 9 i0 (.string ByteArray.empty) 1 Tryd.underlying35 HI.out.1 HI.out.2.1 HI.out.2.2.1 .i64 .i64 _ 9 rfl rfl (by rfl) (by rw [HI.out.2.2.2]; omega) (by unfold maxLen; omega) (Nat.le_refl _) ?_; intro w0 hown hg0; clear c0 c1 c2 c3 c4 c5 c6 c7 c8; have HO := Lib.hid (KK.make HK.out hown hg0); clear hown hg0; obtain ⟨c0, c1, c2, c3, c4, c5, c6, c7, c8⟩ := nine HO.out.2.2) | (at_builtin; refine KK.app HO.out HXL.out HI.out (by omega) rfl _ _ rfl rfl rfl ?_; intro vA vc w8 hk; clear HO c0 c1 c2 c3 c4 c5 c6 c7 c8; (try clear HR hrng); have HO := Lib.hid hk; clear hk; obtain ⟨c0, c1, c2, c3, c4, c5, c6, c7, c8⟩ := nine HO.out.2.2; obtain ⟨w9, hrng, hR, hg9, hs9⟩ := run_range (P := Tryd.prog) (mty := 139) Tryd.underlying139 w8 m [] (mnil (HM.out.fr (Fr.of_below (bad := fun _ => False) HO.out.2.1))); have HR := Lib.hid (And.intro hR (And.intro hg9 hs9)); clear hR hg9 hs9))
    have HKE := Lib.hid (And.intro HO.out.1 HO.out.2.1)
    have hrun : (Instr.next (.pointer (some ⟨w8.heap.size, 0, none⟩)) false 0).run Tryd.prog w9 = .ok (.tuple #[.bool false]) w9 := by
      rcases HR.out.1.next (P := Tryd.prog) 0 (by simp) with ⟨_, h⟩ | ⟨p, hp, _⟩
      · exact h
      · cases hp
    have HG := Lib.hid HR.out.2
    clear c0 c1 c2 c3 c4 c5 c6 c7 c8 HO HK HR hrng
    refine wp_loop_rounds 1 ?_
    rw [rounds_succ]
    go_wp2
    go_ret
    have hg := HG.out.1
    have hk := own_keep HKE.out.1 (fun j cs hb => hb.grown hg (fun e => by cases e))
    exact ⟨vA, vc, rfl, hk, HKE.out.2.trans ⟨hg.os, hg.tape, hg.output, hg.size, fun k hk => hg.block k (by have := HKE.out.2.size; omega) (fun e => by cases e)⟩⟩
  · go_enter Tryd.func108, Tryd.ntmps108
    go_wp2_with (first | (at_make; refine wpList_make_own _ rfl _ _ 35 rfl w.heap.size 9 i0 (.string ByteArray.empty) 1 Tryd.underlying35 HI.out.1 HI.out.2.1 HI.out.2.2.1 .i64 .i64 _ 9 rfl rfl (by rfl) (by rw [HI.out.2.2.2]; omega) (by unfold maxLen; omega) (Nat.le_refl _) ?_; intro w0 hown hg0; clear c0 c1 c2 c3 c4 c5 c6 c7 c8; have HO := Lib.hid (KK.make HK.out hown hg0); clear hown hg0; obtain ⟨c0, c1, c2, c3, c4, c5, c6, c7, c8⟩ := nine HO.out.2.2) | (at_builtin; refine KK.app HO.out HXL.out HI.out (by omega) rfl _ _ rfl rfl rfl ?_; intro vA vc w8 hk; clear HO c0 c1 c2 c3 c4 c5 c6 c7 c8; (try clear HR hrng); have HO := Lib.hid hk; clear hk; obtain ⟨c0, c1, c2, c3, c4, c5, c6, c7, c8⟩ := nine HO.out.2.2; obtain ⟨w9, hrng, hR, hg9, hs9⟩ := run_range (P := Tryd.prog) (mty := 139) Tryd.underlying139 w8 m [] (mnil (HM.out.fr (Fr.of_below (bad := fun _ => False) HO.out.2.1))); have HR := Lib.hid (And.intro hR (And.intro hg9 hs9)); clear hR hg9 hs9))
    have HKE := Lib.hid (And.intro HO.out.1 HO.out.2.1)
    have hrun : (Instr.next (.pointer (some ⟨w8.heap.size, 0, none⟩)) false 0).run Tryd.prog w9 = .ok (.tuple #[.bool false]) w9 := by
      rcases HR.out.1.next (P := Tryd.prog) 0 (by simp) with ⟨_, h⟩ | ⟨p, hp, _⟩
      · exact h
      · cases hp
    have HG := Lib.hid HR.out.2
    clear c0 c1 c2 c3 c4 c5 c6 c7 c8 HO HK HR hrng
    refine wp_loop_rounds 1 ?_
    rw [rounds_succ]
    go_wp2
    go_ret
    have hg := HG.out.1
    have hk := own_keep HKE.out.1 (fun j cs hb => hb.grown hg (fun e => by cases e))
    exact ⟨vA, vc, rfl, hk, HKE.out.2.trans ⟨hg.os, hg.tape, hg.output, hg.size, fun k hk => hg.block k (by have := HKE.out.2.size; omega) (fun e => by cases e)⟩⟩

end
end Go.Proofs.YtlbnemnadegapaaDoor.Kf
