/- A symmetric key's Set at its ID, use, operations, algorithm; printed by gen_kfset.py. -/
import Derived.Test.YtlbnemnadegapaaDoorKfOps
import Derived.Test.YtlbnemnadegapaaDoorKfAlg
set_option linter.unusedVariables false
set_option linter.unusedSimpArgs false
namespace Go.Proofs.YtlbnemnadegapaaDoor.Kf
open Go.RowKit Go.Proofs.YtlbnemnadegapaaDoor.K Go.Proofs.YtlbnemnadegapaaDoor.Nm Go.Proofs.YtlbnemnadegapaaDoor.Ky
open Go.Proofs.YtlbnemnadegapaaDoor.Nq (three)
section
variable {w w1 w' : World} {x m : Nat} {f : FV} {ov : Value}
theorem put_alg (h : FKC w x m f ov) (hb : Below w.heap.size w w1) (v : Value) : FKC ((w1.alloc (.cells #[v] 117)).setCell ⟨x, 0, none⟩ (.pointer (some ⟨w1.heap.size, 0, none⟩))) x m { f with alg := some v } ov ∧ KS x w ((w1.alloc (.cells #[v] 117)).setCell ⟨x, 0, none⟩ (.pointer (some ⟨w1.heap.size, 0, none⟩))) := by
  obtain ⟨pa, pk, po, pu, h1, h2, h3, h4, h5, h6⟩ := h
  have hx := (h1.below hb h1.lt).alloc (.cells #[v] 117)
  have hf : Fr (· = 144) (w1.alloc (.cells #[v] 117)) ((w1.alloc (.cells #[v] 117)).setCell ⟨x, 0, none⟩ (.pointer (some ⟨w1.heap.size, 0, none⟩))) := Fr.setCell (bad := (· = 144)) hx rfl _
  exact ⟨⟨.pointer (some ⟨w1.heap.size, 0, none⟩), pk, po, pu, hx.set_ 0 _, ⟨w1.heap.size, rfl, hf.blk (Blk.new w1 117 #[v]) (by decide)⟩, ((h3.below hb).below (below_alloc' (Below.refl _ _) _)).fr hf (by decide), ((h4.below hb).below (below_alloc' (Below.refl _ _) _)).fr hf (by decide), ((h5.below hb).below (below_alloc' (Below.refl _ _) _)).fr hf (by decide), ((h6.fr (Fr.of_below (bad := fun _ => False) hb)).fr (Fr.alloc (bad := fun _ => False) w1 _)).fr hf⟩, (((KS.refl x w).of_below hb).alloc _).setCell 0 _⟩
theorem put_kid (h : FKC w x m f ov) (hb : Below w.heap.size w w1) (v : Value) : FKC ((w1.alloc (.cells #[v] 9)).setCell ⟨x, 1, none⟩ (.pointer (some ⟨w1.heap.size, 0, none⟩))) x m { f with kid := some v } ov ∧ KS x w ((w1.alloc (.cells #[v] 9)).setCell ⟨x, 1, none⟩ (.pointer (some ⟨w1.heap.size, 0, none⟩))) := by
  obtain ⟨pa, pk, po, pu, h1, h2, h3, h4, h5, h6⟩ := h
  have hx := (h1.below hb h1.lt).alloc (.cells #[v] 9)
  have hf : Fr (· = 144) (w1.alloc (.cells #[v] 9)) ((w1.alloc (.cells #[v] 9)).setCell ⟨x, 1, none⟩ (.pointer (some ⟨w1.heap.size, 0, none⟩))) := Fr.setCell (bad := (· = 144)) hx rfl _
  exact ⟨⟨pa, .pointer (some ⟨w1.heap.size, 0, none⟩), po, pu, hx.set_ 1 _, ((h2.below hb).below (below_alloc' (Below.refl _ _) _)).fr hf (by decide), ⟨w1.heap.size, rfl, hf.blk (Blk.new w1 9 #[v]) (by decide)⟩, ((h4.below hb).below (below_alloc' (Below.refl _ _) _)).fr hf (by decide), ((h5.below hb).below (below_alloc' (Below.refl _ _) _)).fr hf (by decide), ((h6.fr (Fr.of_below (bad := fun _ => False) hb)).fr (Fr.alloc (bad := fun _ => False) w1 _)).fr hf⟩, (((KS.refl x w).of_below hb).alloc _).setCell 1 _⟩
theorem put_use (h : FKC w x m f ov) (hb : Below w.heap.size w w1) (v : Value) : FKC ((w1.alloc (.cells #[v] 9)).setCell ⟨x, 3, none⟩ (.pointer (some ⟨w1.heap.size, 0, none⟩))) x m { f with use := some v } ov ∧ KS x w ((w1.alloc (.cells #[v] 9)).setCell ⟨x, 3, none⟩ (.pointer (some ⟨w1.heap.size, 0, none⟩))) := by
  obtain ⟨pa, pk, po, pu, h1, h2, h3, h4, h5, h6⟩ := h
  have hx := (h1.below hb h1.lt).alloc (.cells #[v] 9)
  have hf : Fr (· = 144) (w1.alloc (.cells #[v] 9)) ((w1.alloc (.cells #[v] 9)).setCell ⟨x, 3, none⟩ (.pointer (some ⟨w1.heap.size, 0, none⟩))) := Fr.setCell (bad := (· = 144)) hx rfl _
  exact ⟨⟨pa, pk, po, .pointer (some ⟨w1.heap.size, 0, none⟩), hx.set_ 3 _, ((h2.below hb).below (below_alloc' (Below.refl _ _) _)).fr hf (by decide), ((h3.below hb).below (below_alloc' (Below.refl _ _) _)).fr hf (by decide), ((h4.below hb).below (below_alloc' (Below.refl _ _) _)).fr hf (by decide), ⟨w1.heap.size, rfl, hf.blk (Blk.new w1 9 #[v]) (by decide)⟩, ((h6.fr (Fr.of_below (bad := fun _ => False) hb)).fr (Fr.alloc (bad := fun _ => False) w1 _)).fr hf⟩, (((KS.refl x w).of_below hb).alloc _).setCell 3 _⟩
set_option maxRecDepth 100000 in
set_option maxHeartbeats 4000000 in
theorem set_kid (h : FKC w x m f ov) (s : ByteArray) :
    Calls Tryd.prog 60 #[.pointer (some ⟨x, 0, none⟩), .string ⟨#[107, 105, 100]⟩, .iface 9 (.string s)] w fun e w' => e = .returned .nilIface ∧ FKC w' x m { f with kid := some (.string s) } ov ∧ KS x w w' := by
  have t1 : ∀ W, Sem.run Tryd.prog (Instr.typeAssert (.iface 9 (.string s)) 20 9 true) W = .ok (.tuple #[.string s, .bool true]) W := fun W => by kernel_rfl
  have HP := Lib.hid (put_kid h (Below.refl _ _) (.string s))
  obtain ⟨pa, pk, po, pu, h1, h2, h3, h4, h5, h6⟩ := h
  have hw1 : Blk (w.alloc (.cells #[.string s] 9)) x 144 #[pa, pk, po, pu, ov, .pointer none, .pointer none, .pointer none, .map (some m)] := h1.alloc _
  have k1 : (w.alloc (.cells #[.string s] 9)).cell? ⟨x, 1, none⟩ = some pk := by rw [hw1.cell]; rfl
  have k2 := hw1.frozen 1
  clear h1 h2 h3 h4 h5 h6 hw1
  go_enter Tryd.func60, Tryd.ntmps60
  go_wp2
  refine bodyPost_ret (v := .nilIface) (by kernel_rfl) rfl ?_
  exact ⟨rfl, HP.out.1, HP.out.2⟩
set_option maxRecDepth 100000 in
theorem Set_kid (h : FKC w x m f ov) (s : ByteArray) :
    Calls Tryd.prog 44 #[.pointer (some ⟨x, 0, none⟩), .string ⟨#[107, 105, 100]⟩, .iface 9 (.string s)] w fun e w' => e = .returned .nilIface ∧ FKC w' x m { f with kid := some (.string s) } ov ∧ KS x w w' := by
  have H := Lib.hid (set_kid h s)
  go_enter Tryd.func44, Tryd.ntmps44
  go_wp2_with (go_at_call 60; (with_reducible refine Calls.mono H.out ?_); rintro e w' ⟨rfl, hP⟩; have HP := Lib.hid hP; clear hP)
  go_ret
  exact ⟨rfl, HP.out⟩
set_option maxRecDepth 100000 in
set_option maxHeartbeats 4000000 in
theorem set_use (h : FKC w x m f ov) (s : ByteArray) :
    Calls Tryd.prog 60 #[.pointer (some ⟨x, 0, none⟩), .string ⟨#[117, 115, 101]⟩, .iface 9 (.string s)] w fun e w' => e = .returned .nilIface ∧ FKC w' x m { f with use := some (.string s) } ov ∧ KS x w w' := by
  have t1 : ∀ W, Sem.run Tryd.prog (Instr.typeAssert (.iface 9 (.string s)) 20 9 true) W = .ok (.tuple #[.string s, .bool true]) W := fun W => by kernel_rfl
  have t0 : ∀ W, Sem.run Tryd.prog (Instr.typeAssert (.iface 9 (.string s)) 20 163 true) W = .ok (.tuple #[.string ⟨#[]⟩, .bool false]) W := fun W => by kernel_rfl
  have HP := Lib.hid (put_use h (Below.refl _ _) (.string s))
  obtain ⟨pa, pk, po, pu, h1, h2, h3, h4, h5, h6⟩ := h
  have hw1 : Blk (w.alloc (.cells #[.string s] 9)) x 144 #[pa, pk, po, pu, ov, .pointer none, .pointer none, .pointer none, .map (some m)] := h1.alloc _
  have k1 : (w.alloc (.cells #[.string s] 9)).cell? ⟨x, 3, none⟩ = some pu := by rw [hw1.cell]; rfl
  have k2 := hw1.frozen 3
  clear h1 h2 h3 h4 h5 h6 hw1
  go_enter Tryd.func60, Tryd.ntmps60
  go_wp2
  refine bodyPost_ret (v := .nilIface) (by kernel_rfl) rfl ?_
  exact ⟨rfl, HP.out.1, HP.out.2⟩
set_option maxRecDepth 100000 in
theorem Set_use (h : FKC w x m f ov) (s : ByteArray) :
    Calls Tryd.prog 44 #[.pointer (some ⟨x, 0, none⟩), .string ⟨#[117, 115, 101]⟩, .iface 9 (.string s)] w fun e w' => e = .returned .nilIface ∧ FKC w' x m { f with use := some (.string s) } ov ∧ KS x w w' := by
  have H := Lib.hid (set_use h s)
  go_enter Tryd.func44, Tryd.ntmps44
  go_wp2_with (go_at_call 60; (with_reducible refine Calls.mono H.out ?_); rintro e w' ⟨rfl, hP⟩; have HP := Lib.hid hP; clear hP)
  go_ret
  exact ⟨rfl, HP.out⟩
def AlgPost (s : ByteArray) (x m : Nat) (f : FV) (ov : Value) (w : World) (e : Ending) (w' : World) : Prop := e = .returned .nilIface ∧ ∃ v, SigV s v ∧ FKC w' x m { f with alg := some v } ov ∧ KS x w w'
set_option maxRecDepth 100000 in
set_option maxHeartbeats 4000000 in
theorem set_alg (h : FKC w x m f ov) (s : ByteArray) (hs : IsSig s) :
    Calls Tryd.prog 60 #[.pointer (some ⟨x, 0, none⟩), .string ⟨#[97, 108, 103]⟩, .iface 9 (.string s)] w (AlgPost s x m f ov w) := by
  have t0 : ∀ W, Sem.run Tryd.prog (Instr.typeAssert (.iface 9 (.string s)) 20 9 true) W = .ok (.tuple #[.string s, .bool true]) W := fun W => by kernel_rfl
  have t1 : ∀ W, Sem.run Tryd.prog (Instr.typeAssert (.iface 9 (.string s)) 20 156 true) W = .ok (.tuple #[.agg #[.string ⟨#[]⟩, .bool false, .bool false], .bool false]) W := fun W => by kernel_rfl
  have t2 : ∀ W, Sem.run Tryd.prog (Instr.typeAssert (.iface 9 (.string s)) 20 157 true) W = .ok (.tuple #[.agg #[.string ⟨#[]⟩, .bool false, .bool false], .bool false]) W := fun W => by kernel_rfl
  have t3 : ∀ W, Sem.run Tryd.prog (Instr.typeAssert (.iface 9 (.string s)) 20 159 true) W = .ok (.tuple #[.agg #[.string ⟨#[]⟩, .bool false], .bool false]) W := fun W => by kernel_rfl
  have HC := Lib.hid (AlgFrom_calls w s hs)
  have HF := Lib.hid h
  clear h
  go_enter Tryd.func60, Tryd.ntmps60
  go_wp2_with (go_at_call 68; (with_reducible refine Calls.mono HC.out ?_); rintro e w1 ⟨v, rfl, ⟨dd, yy, hv⟩, hb⟩; subst hv; have HP := Lib.hid (put_alg HF.out hb (.iface 156 (three s dd yy))); obtain ⟨pa, pk, po, pu, h1, _⟩ := (HF.out.below hb); have hw1 := h1.alloc (.cells #[.iface 156 (three s dd yy)] 117); have k1 : (w1.alloc (.cells #[.iface 156 (three s dd yy)] 117)).cell? ⟨x, 0, none⟩ = some pa := (by rw [hw1.cell]; rfl); have k2 := hw1.frozen 0; clear h1 hw1 hb)
  refine bodyPost_ret (v := .nilIface) (by kernel_rfl) rfl ?_
  exact ⟨rfl, _, ⟨dd, yy, rfl⟩, HP.out.1, HP.out.2⟩
set_option maxRecDepth 100000 in
theorem Set_alg (h : FKC w x m f ov) (s : ByteArray) (hs : IsSig s) :
    Calls Tryd.prog 44 #[.pointer (some ⟨x, 0, none⟩), .string ⟨#[97, 108, 103]⟩, .iface 9 (.string s)] w fun e w' => AlgPost s x m f ov w e w' := by
  have H := Lib.hid (set_alg h s hs)
  go_enter Tryd.func44, Tryd.ntmps44
  go_wp2_with (go_at_call 60; (with_reducible refine Calls.mono H.out ?_); rintro e w' ⟨rfl, hP⟩; have HP := Lib.hid hP; clear hP)
  go_ret
  exact ⟨rfl, HP.out⟩
def OpsPost (n : Nat) (l : List ByteArray) (x m : Nat) (f : FV) (ov : Value) (w : World) (e : Ending) (w' : World) : Prop := e = .returned .nilIface ∧ ∃ g, (∃ cs, Blk w' g 145 cs ∧ Fil cs n l n) ∧ FKC w' x m { f with ops := some (.slice (some ⟨g, 0, none⟩) n n) } ov ∧ KS x w w'
theorem put_ops {n : Nat} {l : List ByteArray} (h : FKC w x m f ov) (hA : AccPost w.heap.size n l (w.alloc (.cells #[.slice none 0 0] 112)) (.returned .nilIface) w1) : OpsPost n l x m f ov w (.returned .nilIface) (w1.setCell ⟨x, 2, none⟩ (.pointer (some ⟨w.heap.size, 0, none⟩))) ∧ (∃ p, w1.cell? ⟨x, 2, none⟩ = some p) ∧ w1.frozen? ⟨x, 2, none⟩ = false := by
  obtain ⟨g, _, a1, ⟨cs, a2, a3⟩, a4⟩ := hA
  obtain ⟨pa, pk, po, pu, h1, h2, h3, h4, h5, h6⟩ := h
  have hb1 := below_alloc' (Below.refl w.heap.size w) (.cells #[.slice none 0 0] 112)
  have hb : Below w.heap.size w w1 := hb1.trans (below_of_grown a4 (Nat.le_refl _) hb1.size)
  have hx := h1.below hb h1.lt
  have hf : Fr (· = 144) w1 (w1.setCell ⟨x, 2, none⟩ (.pointer (some ⟨w.heap.size, 0, none⟩))) := Fr.setCell (bad := (· = 144)) hx rfl _
  refine ⟨⟨rfl, g, ⟨cs, hf.blk a2 (by decide), a3⟩, ⟨pa, pk, .pointer (some ⟨w.heap.size, 0, none⟩), pu, hx.set_ 2 _, (h2.below hb).fr hf (by decide), (h3.below hb).fr hf (by decide), ⟨_, rfl, hf.blk a1 (by decide)⟩, (h5.below hb).fr hf (by decide), (h6.fr (Fr.of_below (bad := fun _ => False) hb)).fr hf⟩, ((KS.refl x w).of_below hb).setCell 2 _⟩, ⟨po, by rw [hx.cell]; rfl⟩, hx.frozen 2⟩
set_option maxRecDepth 100000 in
set_option maxHeartbeats 4000000 in
theorem set_ops {A : Option Addr} {n c : Nat} {l : List ByteArray} (h : FKC w x m f ov) (hl : SLt w A n l) (ho : ∀ s ∈ l, s ∈ ops8) (hn : n ≤ 1000) :
    Calls Tryd.prog 60 #[.pointer (some ⟨x, 0, none⟩), .string ⟨#[107, 101, 121, 95, 111, 112, 115]⟩, .iface 35 (.slice A n c)] w (OpsPost n l x m f ov w) := by
  have HC := Lib.hid (Accept_calls (c := c) (w.alloc (.cells #[.slice none 0 0] 112)) w.heap.size (Blk.new w _ _) (hl.below (below_alloc' (Below.refl _ _) _)) ho hn)
  have HF := Lib.hid h
  clear h hl
  go_enter Tryd.func60, Tryd.ntmps60
  go_wp2_with (go_at_call 70; (with_reducible refine Calls.mono HC.out ?_); rintro e w1 hA; obtain rfl : e = .returned .nilIface := (by obtain ⟨g, he, _⟩ := hA; exact he); have hq := put_ops HF.out hA; obtain ⟨hq1, ⟨p2, k1⟩, k2⟩ := hq; have HP := Lib.hid hq1; clear hq1 hA)
  refine bodyPost_ret (v := .nilIface) (by kernel_rfl) rfl ?_
  exact HP.out
set_option maxRecDepth 100000 in
theorem Set_ops {A : Option Addr} {n c : Nat} {l : List ByteArray} (h : FKC w x m f ov) (hl : SLt w A n l) (ho : ∀ s ∈ l, s ∈ ops8) (hn : n ≤ 1000) :
    Calls Tryd.prog 44 #[.pointer (some ⟨x, 0, none⟩), .string ⟨#[107, 101, 121, 95, 111, 112, 115]⟩, .iface 35 (.slice A n c)] w fun e w' => OpsPost n l x m f ov w e w' := by
  have H := Lib.hid (set_ops (c := c) h hl ho hn)
  go_enter Tryd.func44, Tryd.ntmps44
  go_wp2_with (go_at_call 60; (with_reducible refine Calls.mono H.out ?_); rintro e w' ⟨rfl, hP⟩; have HP := Lib.hid hP; clear hP)
  go_ret
  exact ⟨rfl, HP.out⟩
end
end Go.Proofs.YtlbnemnadegapaaDoor.Kf
