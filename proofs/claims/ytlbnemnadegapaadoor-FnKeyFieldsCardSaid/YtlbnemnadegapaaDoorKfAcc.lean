/- The accessors, Has, Remove of a symmetric key; printed by gen_kf.py. -/
import Derived.Test.YtlbnemnadegapaaDoorKfMem
set_option linter.unusedVariables false
set_option linter.unusedSimpArgs false
namespace Go.Proofs.YtlbnemnadegapaaDoor.Kf
open Go.RowKit Go.Proofs.YtlbnemnadegapaaDoor.K Go.Proofs.YtlbnemnadegapaaDoor.Nm Go.Proofs.YtlbnemnadegapaaDoor.Ky
/-- Nothing but the key's block has turned. -/
def KS (x : Nat) (w w' : World) : Prop := w.grownBy w' (some x)
theorem KS.refl (x : Nat) (w : World) : KS x w w := World.grownBy.refl w _
theorem KS.trans {x : Nat} {w w1 w2 : World} (h : KS x w w1) (k : KS x w1 w2) : KS x w w2 := grown_trans h k
theorem KS.setCell {x : Nat} {w w1 : World} (h : KS x w w1) (i : Nat) (u : Value) : KS x w (w1.setCell ⟨x, i, none⟩ u) := h.trans (setCell_grown w1 ⟨x, i, none⟩ u)
theorem KS.alloc {x : Nat} {w w1 : World} (h : KS x w w1) (o : Obj) : KS x w (w1.alloc o) := h.trans (World.grownBy_alloc w1 o _)
theorem KS.of_below {x : Nat} {w w1 w2 : World} (h : KS x w w1) (hb : Below w1.heap.size w1 w2) : KS x w w2 := h.trans (grown_of_below hb (Nat.le_refl _) _)
section
variable {w w' : World} {x m : Nat} {f : FV} {ov : Value}
set_option maxRecDepth 100000 in
theorem KeyUsage_calls (h : FKC w x m f ov) : Calls Tryd.prog 107 #[.pointer (some ⟨x, 0, none⟩)] w fun e w' => e = .returned (.tuple #[f.use.getD (.string ⟨#[]⟩), .bool f.use.isSome]) ∧ w = w' := by
  obtain ⟨pa, pk, po, pu, h1, h2, h3, h4, h5, h6⟩ := h
  have c1 : w.cell? ⟨x, 3, none⟩ = some pu := by rw [h1.cell]; rfl
  have hp := h5
  obtain ⟨alg, kid, ops, use⟩ := f
  simp only at hp ⊢
  clear h1 h2 h3 h4 h5 h6
  cases use with
  | none =>
    obtain rfl : pu = .pointer none := hp
    go_enter Tryd.func107, Tryd.ntmps107
    go_wp2
    refine bodyPost_ret (v := .tuple #[.string ⟨#[]⟩, .bool false]) (by kernel_rfl) rfl ?_
    exact ⟨rfl, rfl⟩
  | some v =>
    obtain ⟨b, rfl, hb⟩ := hp
    have c2 : w.cell? ⟨b, 0, none⟩ = some v := by rw [hb.cell]; rfl
    clear hb
    go_enter Tryd.func107, Tryd.ntmps107
    go_wp2
    refine bodyPost_ret (v := .tuple #[v, .bool true]) (by kernel_rfl) rfl ?_
    exact ⟨rfl, rfl⟩
set_option maxRecDepth 100000 in
theorem KeyOps_calls (h : FKC w x m f ov) : Calls Tryd.prog 105 #[.pointer (some ⟨x, 0, none⟩)] w fun e w' => e = .returned (.tuple #[f.ops.getD (.slice none 0 0), .bool f.ops.isSome]) ∧ w = w' := by
  obtain ⟨pa, pk, po, pu, h1, h2, h3, h4, h5, h6⟩ := h
  have c1 : w.cell? ⟨x, 2, none⟩ = some po := by rw [h1.cell]; rfl
  have hp := h4
  obtain ⟨alg, kid, ops, use⟩ := f
  simp only at hp ⊢
  clear h1 h2 h3 h4 h5 h6
  cases ops with
  | none =>
    obtain rfl : po = .pointer none := hp
    go_enter Tryd.func105, Tryd.ntmps105
    go_wp2
    refine bodyPost_ret (v := .tuple #[.slice none 0 0, .bool false]) (by kernel_rfl) rfl ?_
    exact ⟨rfl, rfl⟩
  | some v =>
    obtain ⟨b, rfl, hb⟩ := hp
    have c2 : w.cell? ⟨b, 0, none⟩ = some v := by rw [hb.cell]; rfl
    clear hb
    go_enter Tryd.func105, Tryd.ntmps105
    go_wp2
    refine bodyPost_ret (v := .tuple #[v, .bool true]) (by kernel_rfl) rfl ?_
    exact ⟨rfl, rfl⟩
set_option maxRecDepth 100000 in
theorem Algorithm_calls (h : FKC w x m f ov) : Calls Tryd.prog 100 #[.pointer (some ⟨x, 0, none⟩)] w fun e w' => e = .returned (.tuple #[f.alg.getD (.nilIface), .bool f.alg.isSome]) ∧ w = w' := by
  obtain ⟨pa, pk, po, pu, h1, h2, h3, h4, h5, h6⟩ := h
  have c1 : w.cell? ⟨x, 0, none⟩ = some pa := by rw [h1.cell]; rfl
  have hp := h2
  obtain ⟨alg, kid, ops, use⟩ := f
  simp only at hp ⊢
  clear h1 h2 h3 h4 h5 h6
  cases alg with
  | none =>
    obtain rfl : pa = .pointer none := hp
    go_enter Tryd.func100, Tryd.ntmps100
    go_wp2
    refine bodyPost_ret (v := .tuple #[.nilIface, .bool false]) (by kernel_rfl) rfl ?_
    exact ⟨rfl, rfl⟩
  | some v =>
    obtain ⟨b, rfl, hb⟩ := hp
    have c2 : w.cell? ⟨b, 0, none⟩ = some v := by rw [hb.cell]; rfl
    clear hb
    go_enter Tryd.func100, Tryd.ntmps100
    go_wp2
    refine bodyPost_ret (v := .tuple #[v, .bool true]) (by kernel_rfl) rfl ?_
    exact ⟨rfl, rfl⟩
set_option maxRecDepth 100000 in
theorem KeyID_gets (h : FKC w x m f ov) : Calls Tryd.prog 104 #[.pointer (some ⟨x, 0, none⟩)] w fun e w' => e = .returned (.tuple #[f.kid.getD (.string ⟨#[]⟩), .bool f.kid.isSome]) ∧ w = w' := by
  obtain ⟨pa, pk, po, pu, h1, h2, h3, h4, h5, h6⟩ := h
  have c1 : w.cell? ⟨x, 1, none⟩ = some pk := by rw [h1.cell]; rfl
  have hp := h3
  obtain ⟨alg, kid, ops, use⟩ := f
  simp only at hp ⊢
  clear h1 h2 h3 h4 h5 h6
  cases kid with
  | none =>
    obtain rfl : pk = .pointer none := hp
    go_enter Tryd.func104, Tryd.ntmps104
    go_wp2
    refine bodyPost_ret (v := .tuple #[.string ⟨#[]⟩, .bool false]) (by kernel_rfl) rfl ?_
    exact ⟨rfl, rfl⟩
  | some v =>
    obtain ⟨b, rfl, hb⟩ := hp
    have c2 : w.cell? ⟨b, 0, none⟩ = some v := by rw [hb.cell]; rfl
    clear hb
    go_enter Tryd.func104, Tryd.ntmps104
    go_wp2
    refine bodyPost_ret (v := .tuple #[v, .bool true]) (by kernel_rfl) rfl ?_
    exact ⟨rfl, rfl⟩
set_option maxRecDepth 100000 in
theorem Octets_calls {ad : Addr} {n c : Nat} (h : FKC w x m f (.slice (some ad) n c)) : Calls Tryd.prog 109 #[.pointer (some ⟨x, 0, none⟩)] w fun e w' => e = .returned (.tuple #[.slice (some ad) n c, .bool true]) ∧ w = w' := by
  obtain ⟨pa, pk, po, pu, h1, h2, h3, h4, h5, h6⟩ := h
  have c1 : w.cell? ⟨x, 4, none⟩ = some (.slice (some ad) n c) := by rw [h1.cell]; rfl
  have hE : ∀ W : World, Sem.run Tryd.prog (binOp .neq 22 (.slice (some ad) n c) (.slice none 0 0)) W = .ok (.bool true) W := fun W => by kernel_rfl
  clear h1 h2 h3 h4 h5 h6
  go_enter Tryd.func109, Tryd.ntmps109
  go_wp2
  refine bodyPost_ret (v := .tuple #[.slice (some ad) n c, .bool true]) (by kernel_rfl) rfl ?_
  exact ⟨rfl, rfl⟩
set_option maxRecDepth 100000 in
theorem Has_kid (h : FKC w x m f ov) : Calls Tryd.prog 103 #[.pointer (some ⟨x, 0, none⟩), .string ⟨#[107, 105, 100]⟩] w fun e w' => e = .returned (.bool f.kid.isSome) ∧ w = w' := by
  obtain ⟨pa, pk, po, pu, h1, h2, h3, h4, h5, h6⟩ := h
  have c1 : w.cell? ⟨x, 1, none⟩ = some pk := by rw [h1.cell]; rfl
  have hp := h3
  obtain ⟨alg, kid, ops, use⟩ := f
  simp only at hp ⊢
  clear h1 h2 h3 h4 h5 h6
  cases kid with
  | none =>
    obtain rfl : pk = .pointer none := hp
    go_enter Tryd.func103, Tryd.ntmps103
    go_wp2
    go_ret
    exact ⟨rfl, rfl⟩
  | some v =>
    obtain ⟨b, rfl, hb⟩ := hp
    clear hb
    go_enter Tryd.func103, Tryd.ntmps103
    go_wp2
    go_ret
    exact ⟨rfl, rfl⟩
set_option maxRecDepth 100000 in
theorem Has_use (h : FKC w x m f ov) : Calls Tryd.prog 103 #[.pointer (some ⟨x, 0, none⟩), .string ⟨#[117, 115, 101]⟩] w fun e w' => e = .returned (.bool f.use.isSome) ∧ w = w' := by
  obtain ⟨pa, pk, po, pu, h1, h2, h3, h4, h5, h6⟩ := h
  have c1 : w.cell? ⟨x, 3, none⟩ = some pu := by rw [h1.cell]; rfl
  have hp := h5
  obtain ⟨alg, kid, ops, use⟩ := f
  simp only at hp ⊢
  clear h1 h2 h3 h4 h5 h6
  cases use with
  | none =>
    obtain rfl : pu = .pointer none := hp
    go_enter Tryd.func103, Tryd.ntmps103
    go_wp2
    go_ret
    exact ⟨rfl, rfl⟩
  | some v =>
    obtain ⟨b, rfl, hb⟩ := hp
    clear hb
    go_enter Tryd.func103, Tryd.ntmps103
    go_wp2
    go_ret
    exact ⟨rfl, rfl⟩
set_option maxRecDepth 100000 in
theorem Has_ops (h : FKC w x m f ov) : Calls Tryd.prog 103 #[.pointer (some ⟨x, 0, none⟩), .string ⟨#[107, 101, 121, 95, 111, 112, 115]⟩] w fun e w' => e = .returned (.bool f.ops.isSome) ∧ w = w' := by
  obtain ⟨pa, pk, po, pu, h1, h2, h3, h4, h5, h6⟩ := h
  have c1 : w.cell? ⟨x, 2, none⟩ = some po := by rw [h1.cell]; rfl
  have hp := h4
  obtain ⟨alg, kid, ops, use⟩ := f
  simp only at hp ⊢
  clear h1 h2 h3 h4 h5 h6
  cases ops with
  | none =>
    obtain rfl : po = .pointer none := hp
    go_enter Tryd.func103, Tryd.ntmps103
    go_wp2
    go_ret
    exact ⟨rfl, rfl⟩
  | some v =>
    obtain ⟨b, rfl, hb⟩ := hp
    clear hb
    go_enter Tryd.func103, Tryd.ntmps103
    go_wp2
    go_ret
    exact ⟨rfl, rfl⟩
set_option maxRecDepth 100000 in
theorem Has_alg (h : FKC w x m f ov) : Calls Tryd.prog 103 #[.pointer (some ⟨x, 0, none⟩), .string ⟨#[97, 108, 103]⟩] w fun e w' => e = .returned (.bool f.alg.isSome) ∧ w = w' := by
  obtain ⟨pa, pk, po, pu, h1, h2, h3, h4, h5, h6⟩ := h
  have c1 : w.cell? ⟨x, 0, none⟩ = some pa := by rw [h1.cell]; rfl
  have hp := h2
  obtain ⟨alg, kid, ops, use⟩ := f
  simp only at hp ⊢
  clear h1 h2 h3 h4 h5 h6
  cases alg with
  | none =>
    obtain rfl : pa = .pointer none := hp
    go_enter Tryd.func103, Tryd.ntmps103
    go_wp2
    go_ret
    exact ⟨rfl, rfl⟩
  | some v =>
    obtain ⟨b, rfl, hb⟩ := hp
    clear hb
    go_enter Tryd.func103, Tryd.ntmps103
    go_wp2
    go_ret
    exact ⟨rfl, rfl⟩
set_option maxRecDepth 100000 in
theorem Remove_kid (h : FKC w x m f ov) : Calls Tryd.prog 110 #[.pointer (some ⟨x, 0, none⟩), .string ⟨#[107, 105, 100]⟩] w fun e w' => e = .returned .nilIface ∧ FKC w' x m { f with kid := none } ov ∧ KS x w w' := by
  obtain ⟨pa, pk, po, pu, h1, h2, h3, h4, h5, h6⟩ := h
  have c1 : w.cell? ⟨x, 1, none⟩ = some pk := by rw [h1.cell]; rfl
  have c1f := h1.frozen 1
  have hf : Fr (· = 144) w (w.setCell ⟨x, 1, none⟩ (.pointer none)) := Fr.setCell (bad := (· = 144)) h1 rfl _
  have HP := Lib.hid (show FKC (w.setCell ⟨x, 1, none⟩ (.pointer none)) x m { f with kid := none } ov ∧ KS x w (w.setCell ⟨x, 1, none⟩ (.pointer none)) from ⟨⟨pa, .pointer none, po, pu, h1.set_ 1 _, h2.fr hf (by decide), rfl, h4.fr hf (by decide), h5.fr hf (by decide), h6.fr hf⟩, KS.setCell (KS.refl x w) 1 _⟩)
  clear h1 h2 h3 h4 h5 h6 hf
  go_enter Tryd.func110, Tryd.ntmps110
  go_wp2
  go_ret
  exact ⟨rfl, HP.out.1, HP.out.2⟩
set_option maxRecDepth 100000 in
theorem Remove_use (h : FKC w x m f ov) : Calls Tryd.prog 110 #[.pointer (some ⟨x, 0, none⟩), .string ⟨#[117, 115, 101]⟩] w fun e w' => e = .returned .nilIface ∧ FKC w' x m { f with use := none } ov ∧ KS x w w' := by
  obtain ⟨pa, pk, po, pu, h1, h2, h3, h4, h5, h6⟩ := h
  have c1 : w.cell? ⟨x, 3, none⟩ = some pu := by rw [h1.cell]; rfl
  have c1f := h1.frozen 3
  have hf : Fr (· = 144) w (w.setCell ⟨x, 3, none⟩ (.pointer none)) := Fr.setCell (bad := (· = 144)) h1 rfl _
  have HP := Lib.hid (show FKC (w.setCell ⟨x, 3, none⟩ (.pointer none)) x m { f with use := none } ov ∧ KS x w (w.setCell ⟨x, 3, none⟩ (.pointer none)) from ⟨⟨pa, pk, po, .pointer none, h1.set_ 3 _, h2.fr hf (by decide), h3.fr hf (by decide), h4.fr hf (by decide), rfl, h6.fr hf⟩, KS.setCell (KS.refl x w) 3 _⟩)
  clear h1 h2 h3 h4 h5 h6 hf
  go_enter Tryd.func110, Tryd.ntmps110
  go_wp2
  go_ret
  exact ⟨rfl, HP.out.1, HP.out.2⟩
set_option maxRecDepth 100000 in
theorem Remove_ops (h : FKC w x m f ov) : Calls Tryd.prog 110 #[.pointer (some ⟨x, 0, none⟩), .string ⟨#[107, 101, 121, 95, 111, 112, 115]⟩] w fun e w' => e = .returned .nilIface ∧ FKC w' x m { f with ops := none } ov ∧ KS x w w' := by
  obtain ⟨pa, pk, po, pu, h1, h2, h3, h4, h5, h6⟩ := h
  have c1 : w.cell? ⟨x, 2, none⟩ = some po := by rw [h1.cell]; rfl
  have c1f := h1.frozen 2
  have hf : Fr (· = 144) w (w.setCell ⟨x, 2, none⟩ (.pointer none)) := Fr.setCell (bad := (· = 144)) h1 rfl _
  have HP := Lib.hid (show FKC (w.setCell ⟨x, 2, none⟩ (.pointer none)) x m { f with ops := none } ov ∧ KS x w (w.setCell ⟨x, 2, none⟩ (.pointer none)) from ⟨⟨pa, pk, .pointer none, pu, h1.set_ 2 _, h2.fr hf (by decide), h3.fr hf (by decide), rfl, h5.fr hf (by decide), h6.fr hf⟩, KS.setCell (KS.refl x w) 2 _⟩)
  clear h1 h2 h3 h4 h5 h6 hf
  go_enter Tryd.func110, Tryd.ntmps110
  go_wp2
  go_ret
  exact ⟨rfl, HP.out.1, HP.out.2⟩
set_option maxRecDepth 100000 in
theorem Remove_alg (h : FKC w x m f ov) : Calls Tryd.prog 110 #[.pointer (some ⟨x, 0, none⟩), .string ⟨#[97, 108, 103]⟩] w fun e w' => e = .returned .nilIface ∧ FKC w' x m { f with alg := none } ov ∧ KS x w w' := by
  obtain ⟨pa, pk, po, pu, h1, h2, h3, h4, h5, h6⟩ := h
  have c1 : w.cell? ⟨x, 0, none⟩ = some pa := by rw [h1.cell]; rfl
  have c1f := h1.frozen 0
  have hf : Fr (· = 144) w (w.setCell ⟨x, 0, none⟩ (.pointer none)) := Fr.setCell (bad := (· = 144)) h1 rfl _
  have HP := Lib.hid (show FKC (w.setCell ⟨x, 0, none⟩ (.pointer none)) x m { f with alg := none } ov ∧ KS x w (w.setCell ⟨x, 0, none⟩ (.pointer none)) from ⟨⟨.pointer none, pk, po, pu, h1.set_ 0 _, rfl, h3.fr hf (by decide), h4.fr hf (by decide), h5.fr hf (by decide), h6.fr hf⟩, KS.setCell (KS.refl x w) 0 _⟩)
  clear h1 h2 h3 h4 h5 h6 hf
  go_enter Tryd.func110, Tryd.ntmps110
  go_wp2
  go_ret
  exact ⟨rfl, HP.out.1, HP.out.2⟩
end
end Go.Proofs.YtlbnemnadegapaaDoor.Kf
