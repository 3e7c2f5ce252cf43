import Derived.Test.YtapjbdigpleekaaGreatGC
/- Set of a known text to a text; the conditions are on what lies in memory. -/
set_option linter.unusedVariables false
set_option linter.unusedSimpArgs false
namespace Go.Proofs.YtapjbdigpleekaaGreat.Mp
open Go.RowKit Go.Proofs.YtapjbdigpleekaaGreat.K Go.Proofs.YtapjbdigpleekaaGreat.Cl
/-- No error, one cell points to a new block with this value. -/
def PutsNew (g T : Nat) (cs : Array Value) (i : Nat) (t : TypeId) (v : Value) (w : World) (e : Ending) (w' : World) : Prop := e = .returned .nilIface ∧ Blk w' g T (cs.setIfInBounds i (.pointer (some ⟨w.heap.size, 0, none⟩))) ∧ Blk w' w.heap.size t #[v] ∧ w.grownBy w' (some g)
set_option maxRecDepth 100000 in
set_option maxHeartbeats 1000000 in
theorem jws_setNoLock_cty (w : World) (g : Nat) (cs : Array Value) (u : Value) (s : ByteArray) (hb : Blk w g 191 cs) (hp : cs[2]? = some u) :
    Calls Tryz.prog 184 #[.pointer (some ⟨g, 0, none⟩), .string ⟨#[99, 116, 121]⟩, .iface 9 (.string s)] w (PutsNew g 191 cs 2 9 (.string s) w) := by
  have hb1 : Blk (w.alloc (.cells #[.string s] 9)) g 191 cs := hb.alloc _
  have hc : (w.alloc (.cells #[.string s] 9)).cell? ⟨g, 2, none⟩ = some u := by rw [hb1.cell]; exact hp
  have hf : (w.alloc (.cells #[.string s] 9)).frozen? ⟨g, 2, none⟩ = false := hb1.frozen 2
  have HB := Lib.hid hb1
  have HN := Lib.hid (Blk.new w 9 #[.string s])
  have HLT := Lib.hid hb.lt
  clear hb hb1 hp
  have hta := tb_text s
  go_enter Tryz.func184, Tryz.ntmps184
  go_wp2
  go_ret
  have hst := setCell_grown (w.alloc (.cells #[.string s] 9)) ⟨g, 2, none⟩ (.pointer (some ⟨w.heap.size, 0, none⟩))
  exact ⟨rfl, HB.out.set_ 2 _, HN.out.grown hst (by have := HLT.out; intro e; injection e with e; have e : g = w.heap.size := e.symm; omega), grown_trans (World.grownBy_alloc w _ _) hst⟩
set_option maxRecDepth 100000 in
set_option maxHeartbeats 1000000 in
theorem jws_setNoLock_jku (w : World) (g : Nat) (cs : Array Value) (u : Value) (s : ByteArray) (hb : Blk w g 191 cs) (hp : cs[4]? = some u) :
    Calls Tryz.prog 184 #[.pointer (some ⟨g, 0, none⟩), .string ⟨#[106, 107, 117]⟩, .iface 9 (.string s)] w (PutsNew g 191 cs 4 9 (.string s) w) := by
  have hb1 : Blk (w.alloc (.cells #[.string s] 9)) g 191 cs := hb.alloc _
  have hc : (w.alloc (.cells #[.string s] 9)).cell? ⟨g, 4, none⟩ = some u := by rw [hb1.cell]; exact hp
  have hf : (w.alloc (.cells #[.string s] 9)).frozen? ⟨g, 4, none⟩ = false := hb1.frozen 4
  have HB := Lib.hid hb1
  have HN := Lib.hid (Blk.new w 9 #[.string s])
  have HLT := Lib.hid hb.lt
  clear hb hb1 hp
  have hta := tb_text s
  go_enter Tryz.func184, Tryz.ntmps184
  go_wp2
  go_ret
  have hst := setCell_grown (w.alloc (.cells #[.string s] 9)) ⟨g, 4, none⟩ (.pointer (some ⟨w.heap.size, 0, none⟩))
  exact ⟨rfl, HB.out.set_ 4 _, HN.out.grown hst (by have := HLT.out; intro e; injection e with e; have e : g = w.heap.size := e.symm; omega), grown_trans (World.grownBy_alloc w _ _) hst⟩
set_option maxRecDepth 100000 in
set_option maxHeartbeats 1000000 in
theorem jws_setNoLock_kid (w : World) (g : Nat) (cs : Array Value) (u : Value) (s : ByteArray) (hb : Blk w g 191 cs) (hp : cs[5]? = some u) :
    Calls Tryz.prog 184 #[.pointer (some ⟨g, 0, none⟩), .string ⟨#[107, 105, 100]⟩, .iface 9 (.string s)] w (PutsNew g 191 cs 5 9 (.string s) w) := by
  have hb1 : Blk (w.alloc (.cells #[.string s] 9)) g 191 cs := hb.alloc _
  have hc : (w.alloc (.cells #[.string s] 9)).cell? ⟨g, 5, none⟩ = some u := by rw [hb1.cell]; exact hp
  have hf : (w.alloc (.cells #[.string s] 9)).frozen? ⟨g, 5, none⟩ = false := hb1.frozen 5
  have HB := Lib.hid hb1
  have HN := Lib.hid (Blk.new w 9 #[.string s])
  have HLT := Lib.hid hb.lt
  clear hb hb1 hp
  have hta := tb_text s
  go_enter Tryz.func184, Tryz.ntmps184
  go_wp2
  go_ret
  have hst := setCell_grown (w.alloc (.cells #[.string s] 9)) ⟨g, 5, none⟩ (.pointer (some ⟨w.heap.size, 0, none⟩))
  exact ⟨rfl, HB.out.set_ 5 _, HN.out.grown hst (by have := HLT.out; intro e; injection e with e; have e : g = w.heap.size := e.symm; omega), grown_trans (World.grownBy_alloc w _ _) hst⟩
set_option maxRecDepth 100000 in
set_option maxHeartbeats 1000000 in
theorem jws_setNoLock_typ (w : World) (g : Nat) (cs : Array Value) (u : Value) (s : ByteArray) (hb : Blk w g 191 cs) (hp : cs[6]? = some u) :
    Calls Tryz.prog 184 #[.pointer (some ⟨g, 0, none⟩), .string ⟨#[116, 121, 112]⟩, .iface 9 (.string s)] w (PutsNew g 191 cs 6 9 (.string s) w) := by
  have hb1 : Blk (w.alloc (.cells #[.string s] 9)) g 191 cs := hb.alloc _
  have hc : (w.alloc (.cells #[.string s] 9)).cell? ⟨g, 6, none⟩ = some u := by rw [hb1.cell]; exact hp
  have hf : (w.alloc (.cells #[.string s] 9)).frozen? ⟨g, 6, none⟩ = false := hb1.frozen 6
  have HB := Lib.hid hb1
  have HN := Lib.hid (Blk.new w 9 #[.string s])
  have HLT := Lib.hid hb.lt
  clear hb hb1 hp
  have hta := tb_text s
  go_enter Tryz.func184, Tryz.ntmps184
  go_wp2
  go_ret
  have hst := setCell_grown (w.alloc (.cells #[.string s] 9)) ⟨g, 6, none⟩ (.pointer (some ⟨w.heap.size, 0, none⟩))
  exact ⟨rfl, HB.out.set_ 6 _, HN.out.grown hst (by have := HLT.out; intro e; injection e with e; have e : g = w.heap.size := e.symm; omega), grown_trans (World.grownBy_alloc w _ _) hst⟩
set_option maxRecDepth 100000 in
set_option maxHeartbeats 1000000 in
theorem jws_setNoLock_x5t (w : World) (g : Nat) (cs : Array Value) (u : Value) (s : ByteArray) (hb : Blk w g 191 cs) (hp : cs[7]? = some u) :
    Calls Tryz.prog 184 #[.pointer (some ⟨g, 0, none⟩), .string ⟨#[120, 53, 116]⟩, .iface 9 (.string s)] w (PutsNew g 191 cs 7 9 (.string s) w) := by
  have hb1 : Blk (w.alloc (.cells #[.string s] 9)) g 191 cs := hb.alloc _
  have hc : (w.alloc (.cells #[.string s] 9)).cell? ⟨g, 7, none⟩ = some u := by rw [hb1.cell]; exact hp
  have hf : (w.alloc (.cells #[.string s] 9)).frozen? ⟨g, 7, none⟩ = false := hb1.frozen 7
  have HB := Lib.hid hb1
  have HN := Lib.hid (Blk.new w 9 #[.string s])
  have HLT := Lib.hid hb.lt
  clear hb hb1 hp
  have hta := tb_text s
  go_enter Tryz.func184, Tryz.ntmps184
  go_wp2
  go_ret
  have hst := setCell_grown (w.alloc (.cells #[.string s] 9)) ⟨g, 7, none⟩ (.pointer (some ⟨w.heap.size, 0, none⟩))
  exact ⟨rfl, HB.out.set_ 7 _, HN.out.grown hst (by have := HLT.out; intro e; injection e with e; have e : g = w.heap.size := e.symm; omega), grown_trans (World.grownBy_alloc w _ _) hst⟩
set_option maxRecDepth 100000 in
set_option maxHeartbeats 1000000 in
theorem jws_setNoLock_x5t_S256 (w : World) (g : Nat) (cs : Array Value) (u : Value) (s : ByteArray) (hb : Blk w g 191 cs) (hp : cs[8]? = some u) :
    Calls Tryz.prog 184 #[.pointer (some ⟨g, 0, none⟩), .string ⟨#[120, 53, 116, 35, 83, 50, 53, 54]⟩, .iface 9 (.string s)] w (PutsNew g 191 cs 8 9 (.string s) w) := by
  have hb1 : Blk (w.alloc (.cells #[.string s] 9)) g 191 cs := hb.alloc _
  have hc : (w.alloc (.cells #[.string s] 9)).cell? ⟨g, 8, none⟩ = some u := by rw [hb1.cell]; exact hp
  have hf : (w.alloc (.cells #[.string s] 9)).frozen? ⟨g, 8, none⟩ = false := hb1.frozen 8
  have HB := Lib.hid hb1
  have HN := Lib.hid (Blk.new w 9 #[.string s])
  have HLT := Lib.hid hb.lt
  clear hb hb1 hp
  have hta := tb_text s
  go_enter Tryz.func184, Tryz.ntmps184
  go_wp2
  go_ret
  have hst := setCell_grown (w.alloc (.cells #[.string s] 9)) ⟨g, 8, none⟩ (.pointer (some ⟨w.heap.size, 0, none⟩))
  exact ⟨rfl, HB.out.set_ 8 _, HN.out.grown hst (by have := HLT.out; intro e; injection e with e; have e : g = w.heap.size := e.symm; omega), grown_trans (World.grownBy_alloc w _ _) hst⟩
set_option maxRecDepth 100000 in
set_option maxHeartbeats 1000000 in
theorem jws_setNoLock_x5u (w : World) (g : Nat) (cs : Array Value) (u : Value) (s : ByteArray) (hb : Blk w g 191 cs) (hp : cs[9]? = some u) :
    Calls Tryz.prog 184 #[.pointer (some ⟨g, 0, none⟩), .string ⟨#[120, 53, 117]⟩, .iface 9 (.string s)] w (PutsNew g 191 cs 9 9 (.string s) w) := by
  have hb1 : Blk (w.alloc (.cells #[.string s] 9)) g 191 cs := hb.alloc _
  have hc : (w.alloc (.cells #[.string s] 9)).cell? ⟨g, 9, none⟩ = some u := by rw [hb1.cell]; exact hp
  have hf : (w.alloc (.cells #[.string s] 9)).frozen? ⟨g, 9, none⟩ = false := hb1.frozen 9
  have HB := Lib.hid hb1
  have HN := Lib.hid (Blk.new w 9 #[.string s])
  have HLT := Lib.hid hb.lt
  clear hb hb1 hp
  have hta := tb_text s
  go_enter Tryz.func184, Tryz.ntmps184
  go_wp2
  go_ret
  have hst := setCell_grown (w.alloc (.cells #[.string s] 9)) ⟨g, 9, none⟩ (.pointer (some ⟨w.heap.size, 0, none⟩))
  exact ⟨rfl, HB.out.set_ 9 _, HN.out.grown hst (by have := HLT.out; intro e; injection e with e; have e : g = w.heap.size := e.symm; omega), grown_trans (World.grownBy_alloc w _ _) hst⟩
set_option maxRecDepth 100000 in
set_option maxHeartbeats 1000000 in
theorem jwe_setNoLock_cty (w : World) (g : Nat) (cs : Array Value) (u : Value) (s : ByteArray) (hb : Blk w g 198 cs) (hp : cs[5]? = some u) :
    Calls Tryz.prog 220 #[.pointer (some ⟨g, 0, none⟩), .string ⟨#[99, 116, 121]⟩, .iface 9 (.string s)] w (PutsNew g 198 cs 5 9 (.string s) w) := by
  have hb1 : Blk (w.alloc (.cells #[.string s] 9)) g 198 cs := hb.alloc _
  have hc : (w.alloc (.cells #[.string s] 9)).cell? ⟨g, 5, none⟩ = some u := by rw [hb1.cell]; exact hp
  have hf : (w.alloc (.cells #[.string s] 9)).frozen? ⟨g, 5, none⟩ = false := hb1.frozen 5
  have HB := Lib.hid hb1
  have HN := Lib.hid (Blk.new w 9 #[.string s])
  have HLT := Lib.hid hb.lt
  clear hb hb1 hp
  have hta := tb_text s
  go_enter Tryz.func220, Tryz.ntmps220
  go_wp2
  go_ret
  have hst := setCell_grown (w.alloc (.cells #[.string s] 9)) ⟨g, 5, none⟩ (.pointer (some ⟨w.heap.size, 0, none⟩))
  exact ⟨rfl, HB.out.set_ 5 _, HN.out.grown hst (by have := HLT.out; intro e; injection e with e; have e : g = w.heap.size := e.symm; omega), grown_trans (World.grownBy_alloc w _ _) hst⟩
set_option maxRecDepth 100000 in
set_option maxHeartbeats 1000000 in
theorem jwe_setNoLock_jku (w : World) (g : Nat) (cs : Array Value) (u : Value) (s : ByteArray) (hb : Blk w g 198 cs) (hp : cs[7]? = some u) :
    Calls Tryz.prog 220 #[.pointer (some ⟨g, 0, none⟩), .string ⟨#[106, 107, 117]⟩, .iface 9 (.string s)] w (PutsNew g 198 cs 7 9 (.string s) w) := by
  have hb1 : Blk (w.alloc (.cells #[.string s] 9)) g 198 cs := hb.alloc _
  have hc : (w.alloc (.cells #[.string s] 9)).cell? ⟨g, 7, none⟩ = some u := by rw [hb1.cell]; exact hp
  have hf : (w.alloc (.cells #[.string s] 9)).frozen? ⟨g, 7, none⟩ = false := hb1.frozen 7
  have HB := Lib.hid hb1
  have HN := Lib.hid (Blk.new w 9 #[.string s])
  have HLT := Lib.hid hb.lt
  clear hb hb1 hp
  have hta := tb_text s
  go_enter Tryz.func220, Tryz.ntmps220
  go_wp2
  go_ret
  have hst := setCell_grown (w.alloc (.cells #[.string s] 9)) ⟨g, 7, none⟩ (.pointer (some ⟨w.heap.size, 0, none⟩))
  exact ⟨rfl, HB.out.set_ 7 _, HN.out.grown hst (by have := HLT.out; intro e; injection e with e; have e : g = w.heap.size := e.symm; omega), grown_trans (World.grownBy_alloc w _ _) hst⟩
set_option maxRecDepth 100000 in
set_option maxHeartbeats 1000000 in
theorem jwe_setNoLock_kid (w : World) (g : Nat) (cs : Array Value) (u : Value) (s : ByteArray) (hb : Blk w g 198 cs) (hp : cs[8]? = some u) :
    Calls Tryz.prog 220 #[.pointer (some ⟨g, 0, none⟩), .string ⟨#[107, 105, 100]⟩, .iface 9 (.string s)] w (PutsNew g 198 cs 8 9 (.string s) w) := by
  have hb1 : Blk (w.alloc (.cells #[.string s] 9)) g 198 cs := hb.alloc _
  have hc : (w.alloc (.cells #[.string s] 9)).cell? ⟨g, 8, none⟩ = some u := by rw [hb1.cell]; exact hp
  have hf : (w.alloc (.cells #[.string s] 9)).frozen? ⟨g, 8, none⟩ = false := hb1.frozen 8
  have HB := Lib.hid hb1
  have HN := Lib.hid (Blk.new w 9 #[.string s])
  have HLT := Lib.hid hb.lt
  clear hb hb1 hp
  have hta := tb_text s
  go_enter Tryz.func220, Tryz.ntmps220
  go_wp2
  go_ret
  have hst := setCell_grown (w.alloc (.cells #[.string s] 9)) ⟨g, 8, none⟩ (.pointer (some ⟨w.heap.size, 0, none⟩))
  exact ⟨rfl, HB.out.set_ 8 _, HN.out.grown hst (by have := HLT.out; intro e; injection e with e; have e : g = w.heap.size := e.symm; omega), grown_trans (World.grownBy_alloc w _ _) hst⟩
set_option maxRecDepth 100000 in
set_option maxHeartbeats 1000000 in
theorem jwe_setNoLock_typ (w : World) (g : Nat) (cs : Array Value) (u : Value) (s : ByteArray) (hb : Blk w g 198 cs) (hp : cs[9]? = some u) :
    Calls Tryz.prog 220 #[.pointer (some ⟨g, 0, none⟩), .string ⟨#[116, 121, 112]⟩, .iface 9 (.string s)] w (PutsNew g 198 cs 9 9 (.string s) w) := by
  have hb1 : Blk (w.alloc (.cells #[.string s] 9)) g 198 cs := hb.alloc _
  have hc : (w.alloc (.cells #[.string s] 9)).cell? ⟨g, 9, none⟩ = some u := by rw [hb1.cell]; exact hp
  have hf : (w.alloc (.cells #[.string s] 9)).frozen? ⟨g, 9, none⟩ = false := hb1.frozen 9
  have HB := Lib.hid hb1
  have HN := Lib.hid (Blk.new w 9 #[.string s])
  have HLT := Lib.hid hb.lt
  clear hb hb1 hp
  have hta := tb_text s
  go_enter Tryz.func220, Tryz.ntmps220
  go_wp2
  go_ret
  have hst := setCell_grown (w.alloc (.cells #[.string s] 9)) ⟨g, 9, none⟩ (.pointer (some ⟨w.heap.size, 0, none⟩))
  exact ⟨rfl, HB.out.set_ 9 _, HN.out.grown hst (by have := HLT.out; intro e; injection e with e; have e : g = w.heap.size := e.symm; omega), grown_trans (World.grownBy_alloc w _ _) hst⟩
set_option maxRecDepth 100000 in
set_option maxHeartbeats 1000000 in
theorem jwe_setNoLock_x5t (w : World) (g : Nat) (cs : Array Value) (u : Value) (s : ByteArray) (hb : Blk w g 198 cs) (hp : cs[10]? = some u) :
    Calls Tryz.prog 220 #[.pointer (some ⟨g, 0, none⟩), .string ⟨#[120, 53, 116]⟩, .iface 9 (.string s)] w (PutsNew g 198 cs 10 9 (.string s) w) := by
  have hb1 : Blk (w.alloc (.cells #[.string s] 9)) g 198 cs := hb.alloc _
  have hc : (w.alloc (.cells #[.string s] 9)).cell? ⟨g, 10, none⟩ = some u := by rw [hb1.cell]; exact hp
  have hf : (w.alloc (.cells #[.string s] 9)).frozen? ⟨g, 10, none⟩ = false := hb1.frozen 10
  have HB := Lib.hid hb1
  have HN := Lib.hid (Blk.new w 9 #[.string s])
  have HLT := Lib.hid hb.lt
  clear hb hb1 hp
  have hta := tb_text s
  go_enter Tryz.func220, Tryz.ntmps220
  go_wp2
  go_ret
  have hst := setCell_grown (w.alloc (.cells #[.string s] 9)) ⟨g, 10, none⟩ (.pointer (some ⟨w.heap.size, 0, none⟩))
  exact ⟨rfl, HB.out.set_ 10 _, HN.out.grown hst (by have := HLT.out; intro e; injection e with e; have e : g = w.heap.size := e.symm; omega), grown_trans (World.grownBy_alloc w _ _) hst⟩
set_option maxRecDepth 100000 in
set_option maxHeartbeats 1000000 in
theorem jwe_setNoLock_x5t_S256 (w : World) (g : Nat) (cs : Array Value) (u : Value) (s : ByteArray) (hb : Blk w g 198 cs) (hp : cs[11]? = some u) :
    Calls Tryz.prog 220 #[.pointer (some ⟨g, 0, none⟩), .string ⟨#[120, 53, 116, 35, 83, 50, 53, 54]⟩, .iface 9 (.string s)] w (PutsNew g 198 cs 11 9 (.string s) w) := by
  have hb1 : Blk (w.alloc (.cells #[.string s] 9)) g 198 cs := hb.alloc _
  have hc : (w.alloc (.cells #[.string s] 9)).cell? ⟨g, 11, none⟩ = some u := by rw [hb1.cell]; exact hp
  have hf : (w.alloc (.cells #[.string s] 9)).frozen? ⟨g, 11, none⟩ = false := hb1.frozen 11
  have HB := Lib.hid hb1
  have HN := Lib.hid (Blk.new w 9 #[.string s])
  have HLT := Lib.hid hb.lt
  clear hb hb1 hp
  have hta := tb_text s
  go_enter Tryz.func220, Tryz.ntmps220
  go_wp2
  go_ret
  have hst := setCell_grown (w.alloc (.cells #[.string s] 9)) ⟨g, 11, none⟩ (.pointer (some ⟨w.heap.size, 0, none⟩))
  exact ⟨rfl, HB.out.set_ 11 _, HN.out.grown hst (by have := HLT.out; intro e; injection e with e; have e : g = w.heap.size := e.symm; omega), grown_trans (World.grownBy_alloc w _ _) hst⟩
set_option maxRecDepth 100000 in
set_option maxHeartbeats 1000000 in
theorem jwe_setNoLock_x5u (w : World) (g : Nat) (cs : Array Value) (u : Value) (s : ByteArray) (hb : Blk w g 198 cs) (hp : cs[12]? = some u) :
    Calls Tryz.prog 220 #[.pointer (some ⟨g, 0, none⟩), .string ⟨#[120, 53, 117]⟩, .iface 9 (.string s)] w (PutsNew g 198 cs 12 9 (.string s) w) := by
  have hb1 : Blk (w.alloc (.cells #[.string s] 9)) g 198 cs := hb.alloc _
  have hc : (w.alloc (.cells #[.string s] 9)).cell? ⟨g, 12, none⟩ = some u := by rw [hb1.cell]; exact hp
  have hf : (w.alloc (.cells #[.string s] 9)).frozen? ⟨g, 12, none⟩ = false := hb1.frozen 12
  have HB := Lib.hid hb1
  have HN := Lib.hid (Blk.new w 9 #[.string s])
  have HLT := Lib.hid hb.lt
  clear hb hb1 hp
  have hta := tb_text s
  go_enter Tryz.func220, Tryz.ntmps220
  go_wp2
  go_ret
  have hst := setCell_grown (w.alloc (.cells #[.string s] 9)) ⟨g, 12, none⟩ (.pointer (some ⟨w.heap.size, 0, none⟩))
  exact ⟨rfl, HB.out.set_ 12 _, HN.out.grown hst (by have := HLT.out; intro e; injection e with e; have e : g = w.heap.size := e.symm; omega), grown_trans (World.grownBy_alloc w _ _) hst⟩
end Go.Proofs.YtapjbdigpleekaaGreat.Mp

/- Set of a known text to a text; the conditions are on what lies in memory. -/
set_option linter.unusedVariables false
set_option linter.unusedSimpArgs false
namespace Go.Proofs.YtapjbdigpleekaaGreat.Mp
open Go.RowKit Go.Proofs.YtapjbdigpleekaaGreat.K Go.Proofs.YtapjbdigpleekaaGreat.Cl
set_option maxRecDepth 100000 in
set_option maxHeartbeats 1000000 in
theorem jwt_setNoLock_iss (w : World) (g : Nat) (cs : Array Value) (u : Value) (s : ByteArray) (hb : Blk w g 208 cs) (hp : cs[2]? = some u) :
    Calls Tryz.prog 271 #[.pointer (some ⟨g, 0, none⟩), .string ⟨#[105, 115, 115]⟩, .iface 9 (.string s)] w (PutsNew g 208 cs 2 9 (.string s) w) := by
  have hb1 : Blk (w.alloc (.cells #[.string s] 9)) g 208 cs := hb.alloc _
  have hc : (w.alloc (.cells #[.string s] 9)).cell? ⟨g, 2, none⟩ = some u := by rw [hb1.cell]; exact hp
  have hf : (w.alloc (.cells #[.string s] 9)).frozen? ⟨g, 2, none⟩ = false := hb1.frozen 2
  have HB := Lib.hid hb1
  have HN := Lib.hid (Blk.new w 9 #[.string s])
  have HLT := Lib.hid hb.lt
  clear hb hb1 hp
  have hta := tb_text s
  go_enter Tryz.func271, Tryz.ntmps271
  go_wp2
  go_ret
  have hst := setCell_grown (w.alloc (.cells #[.string s] 9)) ⟨g, 2, none⟩ (.pointer (some ⟨w.heap.size, 0, none⟩))
  exact ⟨rfl, HB.out.set_ 2 _, HN.out.grown hst (by have := HLT.out; intro e; injection e with e; have e : g = w.heap.size := e.symm; omega), grown_trans (World.grownBy_alloc w _ _) hst⟩
set_option maxRecDepth 100000 in
set_option maxHeartbeats 1000000 in
theorem jwt_setNoLock_jti (w : World) (g : Nat) (cs : Array Value) (u : Value) (s : ByteArray) (hb : Blk w g 208 cs) (hp : cs[3]? = some u) :
    Calls Tryz.prog 271 #[.pointer (some ⟨g, 0, none⟩), .string ⟨#[106, 116, 105]⟩, .iface 9 (.string s)] w (PutsNew g 208 cs 3 9 (.string s) w) := by
  have hb1 : Blk (w.alloc (.cells #[.string s] 9)) g 208 cs := hb.alloc _
  have hc : (w.alloc (.cells #[.string s] 9)).cell? ⟨g, 3, none⟩ = some u := by rw [hb1.cell]; exact hp
  have hf : (w.alloc (.cells #[.string s] 9)).frozen? ⟨g, 3, none⟩ = false := hb1.frozen 3
  have HB := Lib.hid hb1
  have HN := Lib.hid (Blk.new w 9 #[.string s])
  have HLT := Lib.hid hb.lt
  clear hb hb1 hp
  have hta := tb_text s
  go_enter Tryz.func271, Tryz.ntmps271
  go_wp2
  go_ret
  have hst := setCell_grown (w.alloc (.cells #[.string s] 9)) ⟨g, 3, none⟩ (.pointer (some ⟨w.heap.size, 0, none⟩))
  exact ⟨rfl, HB.out.set_ 3 _, HN.out.grown hst (by have := HLT.out; intro e; injection e with e; have e : g = w.heap.size := e.symm; omega), grown_trans (World.grownBy_alloc w _ _) hst⟩
set_option maxRecDepth 100000 in
set_option maxHeartbeats 1000000 in
theorem jwt_setNoLock_sub (w : World) (g : Nat) (cs : Array Value) (u : Value) (s : ByteArray) (hb : Blk w g 208 cs) (hp : cs[4]? = some u) :
    Calls Tryz.prog 271 #[.pointer (some ⟨g, 0, none⟩), .string ⟨#[115, 117, 98]⟩, .iface 9 (.string s)] w (PutsNew g 208 cs 4 9 (.string s) w) := by
  have hb1 : Blk (w.alloc (.cells #[.string s] 9)) g 208 cs := hb.alloc _
  have hc : (w.alloc (.cells #[.string s] 9)).cell? ⟨g, 4, none⟩ = some u := by rw [hb1.cell]; exact hp
  have hf : (w.alloc (.cells #[.string s] 9)).frozen? ⟨g, 4, none⟩ = false := hb1.frozen 4
  have HB := Lib.hid hb1
  have HN := Lib.hid (Blk.new w 9 #[.string s])
  have HLT := Lib.hid hb.lt
  clear hb hb1 hp
  have hta := tb_text s
  go_enter Tryz.func271, Tryz.ntmps271
  go_wp2
  go_ret
  have hst := setCell_grown (w.alloc (.cells #[.string s] 9)) ⟨g, 4, none⟩ (.pointer (some ⟨w.heap.size, 0, none⟩))
  exact ⟨rfl, HB.out.set_ 4 _, HN.out.grown hst (by have := HLT.out; intro e; injection e with e; have e : g = w.heap.size := e.symm; omega), grown_trans (World.grownBy_alloc w _ _) hst⟩
end Go.Proofs.YtapjbdigpleekaaGreat.Mp

/- Set of a known text to a text; the conditions are on what lies in memory. -/
set_option linter.unusedVariables false
set_option linter.unusedSimpArgs false
namespace Go.Proofs.YtapjbdigpleekaaGreat.Mp
open Go.RowKit Go.Proofs.YtapjbdigpleekaaGreat.K Go.Proofs.YtapjbdigpleekaaGreat.Cl
set_option maxRecDepth 100000 in
set_option maxHeartbeats 1000000 in
theorem oid_setNoLock_email (w : World) (g : Nat) (cs : Array Value) (u : Value) (s : ByteArray) (hb : Blk w g 205 cs) (hp : cs[2]? = some u) :
    Calls Tryz.prog 255 #[.pointer (some ⟨g, 0, none⟩), .string ⟨#[101, 109, 97, 105, 108]⟩, .iface 9 (.string s)] w (PutsNew g 205 cs 2 9 (.string s) w) := by
  have hb1 : Blk (w.alloc (.cells #[.string s] 9)) g 205 cs := hb.alloc _
  have hc : (w.alloc (.cells #[.string s] 9)).cell? ⟨g, 2, none⟩ = some u := by rw [hb1.cell]; exact hp
  have hf : (w.alloc (.cells #[.string s] 9)).frozen? ⟨g, 2, none⟩ = false := hb1.frozen 2
  have HB := Lib.hid hb1
  have HN := Lib.hid (Blk.new w 9 #[.string s])
  have HLT := Lib.hid hb.lt
  clear hb hb1 hp
  have hta := tb_text s
  go_enter Tryz.func255, Tryz.ntmps255
  go_wp2
  go_ret
  have hst := setCell_grown (w.alloc (.cells #[.string s] 9)) ⟨g, 2, none⟩ (.pointer (some ⟨w.heap.size, 0, none⟩))
  exact ⟨rfl, HB.out.set_ 2 _, HN.out.grown hst (by have := HLT.out; intro e; injection e with e; have e : g = w.heap.size := e.symm; omega), grown_trans (World.grownBy_alloc w _ _) hst⟩
set_option maxRecDepth 100000 in
set_option maxHeartbeats 1000000 in
theorem oid_setNoLock_email_verified (w : World) (g : Nat) (cs : Array Value) (u : Value) (s : Bool) (hb : Blk w g 205 cs) (hp : cs[3]? = some u) :
    Calls Tryz.prog 255 #[.pointer (some ⟨g, 0, none⟩), .string ⟨#[101, 109, 97, 105, 108, 95, 118, 101, 114, 105, 102, 105, 101, 100]⟩, .iface 4 (.bool s)] w (PutsNew g 205 cs 3 4 (.bool s) w) := by
  have hb1 : Blk (w.alloc (.cells #[.bool s] 4)) g 205 cs := hb.alloc _
  have hc : (w.alloc (.cells #[.bool s] 4)).cell? ⟨g, 3, none⟩ = some u := by rw [hb1.cell]; exact hp
  have hf : (w.alloc (.cells #[.bool s] 4)).frozen? ⟨g, 3, none⟩ = false := hb1.frozen 3
  have HB := Lib.hid hb1
  have HN := Lib.hid (Blk.new w 4 #[.bool s])
  have HLT := Lib.hid hb.lt
  clear hb hb1 hp
  have hta1 := tb_b2 s
  go_enter Tryz.func255, Tryz.ntmps255
  go_wp2
  go_ret
  have hst := setCell_grown (w.alloc (.cells #[.bool s] 4)) ⟨g, 3, none⟩ (.pointer (some ⟨w.heap.size, 0, none⟩))
  exact ⟨rfl, HB.out.set_ 3 _, HN.out.grown hst (by have := HLT.out; intro e; injection e with e; have e : g = w.heap.size := e.symm; omega), grown_trans (World.grownBy_alloc w _ _) hst⟩
set_option maxRecDepth 100000 in
set_option maxHeartbeats 1000000 in
theorem oid_setNoLock_family_name (w : World) (g : Nat) (cs : Array Value) (u : Value) (s : ByteArray) (hb : Blk w g 205 cs) (hp : cs[4]? = some u) :
    Calls Tryz.prog 255 #[.pointer (some ⟨g, 0, none⟩), .string ⟨#[102, 97, 109, 105, 108, 121, 95, 110, 97, 109, 101]⟩, .iface 9 (.string s)] w (PutsNew g 205 cs 4 9 (.string s) w) := by
  have hb1 : Blk (w.alloc (.cells #[.string s] 9)) g 205 cs := hb.alloc _
  have hc : (w.alloc (.cells #[.string s] 9)).cell? ⟨g, 4, none⟩ = some u := by rw [hb1.cell]; exact hp
  have hf : (w.alloc (.cells #[.string s] 9)).frozen? ⟨g, 4, none⟩ = false := hb1.frozen 4
  have HB := Lib.hid hb1
  have HN := Lib.hid (Blk.new w 9 #[.string s])
  have HLT := Lib.hid hb.lt
  clear hb hb1 hp
  have hta := tb_text s
  go_enter Tryz.func255, Tryz.ntmps255
  go_wp2
  go_ret
  have hst := setCell_grown (w.alloc (.cells #[.string s] 9)) ⟨g, 4, none⟩ (.pointer (some ⟨w.heap.size, 0, none⟩))
  exact ⟨rfl, HB.out.set_ 4 _, HN.out.grown hst (by have := HLT.out; intro e; injection e with e; have e : g = w.heap.size := e.symm; omega), grown_trans (World.grownBy_alloc w _ _) hst⟩
set_option maxRecDepth 100000 in
set_option maxHeartbeats 1000000 in
theorem oid_setNoLock_gender (w : World) (g : Nat) (cs : Array Value) (u : Value) (s : ByteArray) (hb : Blk w g 205 cs) (hp : cs[5]? = some u) :
    Calls Tryz.prog 255 #[.pointer (some ⟨g, 0, none⟩), .string ⟨#[103, 101, 110, 100, 101, 114]⟩, .iface 9 (.string s)] w (PutsNew g 205 cs 5 9 (.string s) w) := by
  have hb1 : Blk (w.alloc (.cells #[.string s] 9)) g 205 cs := hb.alloc _
  have hc : (w.alloc (.cells #[.string s] 9)).cell? ⟨g, 5, none⟩ = some u := by rw [hb1.cell]; exact hp
  have hf : (w.alloc (.cells #[.string s] 9)).frozen? ⟨g, 5, none⟩ = false := hb1.frozen 5
  have HB := Lib.hid hb1
  have HN := Lib.hid (Blk.new w 9 #[.string s])
  have HLT := Lib.hid hb.lt
  clear hb hb1 hp
  have hta := tb_text s
  go_enter Tryz.func255, Tryz.ntmps255
  go_wp2
  go_ret
  have hst := setCell_grown (w.alloc (.cells #[.string s] 9)) ⟨g, 5, none⟩ (.pointer (some ⟨w.heap.size, 0, none⟩))
  exact ⟨rfl, HB.out.set_ 5 _, HN.out.grown hst (by have := HLT.out; intro e; injection e with e; have e : g = w.heap.size := e.symm; omega), grown_trans (World.grownBy_alloc w _ _) hst⟩
set_option maxRecDepth 100000 in
set_option maxHeartbeats 1000000 in
theorem oid_setNoLock_given_name (w : World) (g : Nat) (cs : Array Value) (u : Value) (s : ByteArray) (hb : Blk w g 205 cs) (hp : cs[6]? = some u) :
    Calls Tryz.prog 255 #[.pointer (some ⟨g, 0, none⟩), .string ⟨#[103, 105, 118, 101, 110, 95, 110, 97, 109, 101]⟩, .iface 9 (.string s)] w (PutsNew g 205 cs 6 9 (.string s) w) := by
  have hb1 : Blk (w.alloc (.cells #[.string s] 9)) g 205 cs := hb.alloc _
  have hc : (w.alloc (.cells #[.string s] 9)).cell? ⟨g, 6, none⟩ = some u := by rw [hb1.cell]; exact hp
  have hf : (w.alloc (.cells #[.string s] 9)).frozen? ⟨g, 6, none⟩ = false := hb1.frozen 6
  have HB := Lib.hid hb1
  have HN := Lib.hid (Blk.new w 9 #[.string s])
  have HLT := Lib.hid hb.lt
  clear hb hb1 hp
  have hta := tb_text s
  go_enter Tryz.func255, Tryz.ntmps255
  go_wp2
  go_ret
  have hst := setCell_grown (w.alloc (.cells #[.string s] 9)) ⟨g, 6, none⟩ (.pointer (some ⟨w.heap.size, 0, none⟩))
  exact ⟨rfl, HB.out.set_ 6 _, HN.out.grown hst (by have := HLT.out; intro e; injection e with e; have e : g = w.heap.size := e.symm; omega), grown_trans (World.grownBy_alloc w _ _) hst⟩
set_option maxRecDepth 100000 in
set_option maxHeartbeats 1000000 in
theorem oid_setNoLock_iss (w : World) (g : Nat) (cs : Array Value) (u : Value) (s : ByteArray) (hb : Blk w g 205 cs) (hp : cs[7]? = some u) :
    Calls Tryz.prog 255 #[.pointer (some ⟨g, 0, none⟩), .string ⟨#[105, 115, 115]⟩, .iface 9 (.string s)] w (PutsNew g 205 cs 7 9 (.string s) w) := by
  have hb1 : Blk (w.alloc (.cells #[.string s] 9)) g 205 cs := hb.alloc _
  have hc : (w.alloc (.cells #[.string s] 9)).cell? ⟨g, 7, none⟩ = some u := by rw [hb1.cell]; exact hp
  have hf : (w.alloc (.cells #[.string s] 9)).frozen? ⟨g, 7, none⟩ = false := hb1.frozen 7
  have HB := Lib.hid hb1
  have HN := Lib.hid (Blk.new w 9 #[.string s])
  have HLT := Lib.hid hb.lt
  clear hb hb1 hp
  have hta := tb_text s
  go_enter Tryz.func255, Tryz.ntmps255
  go_wp2
  go_ret
  have hst := setCell_grown (w.alloc (.cells #[.string s] 9)) ⟨g, 7, none⟩ (.pointer (some ⟨w.heap.size, 0, none⟩))
  exact ⟨rfl, HB.out.set_ 7 _, HN.out.grown hst (by have := HLT.out; intro e; injection e with e; have e : g = w.heap.size := e.symm; omega), grown_trans (World.grownBy_alloc w _ _) hst⟩
set_option maxRecDepth 100000 in
set_option maxHeartbeats 1000000 in
theorem oid_setNoLock_jti (w : World) (g : Nat) (cs : Array Value) (u : Value) (s : ByteArray) (hb : Blk w g 205 cs) (hp : cs[8]? = some u) :
    Calls Tryz.prog 255 #[.pointer (some ⟨g, 0, none⟩), .string ⟨#[106, 116, 105]⟩, .iface 9 (.string s)] w (PutsNew g 205 cs 8 9 (.string s) w) := by
  have hb1 : Blk (w.alloc (.cells #[.string s] 9)) g 205 cs := hb.alloc _
  have hc : (w.alloc (.cells #[.string s] 9)).cell? ⟨g, 8, none⟩ = some u := by rw [hb1.cell]; exact hp
  have hf : (w.alloc (.cells #[.string s] 9)).frozen? ⟨g, 8, none⟩ = false := hb1.frozen 8
  have HB := Lib.hid hb1
  have HN := Lib.hid (Blk.new w 9 #[.string s])
  have HLT := Lib.hid hb.lt
  clear hb hb1 hp
  have hta := tb_text s
  go_enter Tryz.func255, Tryz.ntmps255
  go_wp2
  go_ret
  have hst := setCell_grown (w.alloc (.cells #[.string s] 9)) ⟨g, 8, none⟩ (.pointer (some ⟨w.heap.size, 0, none⟩))
  exact ⟨rfl, HB.out.set_ 8 _, HN.out.grown hst (by have := HLT.out; intro e; injection e with e; have e : g = w.heap.size := e.symm; omega), grown_trans (World.grownBy_alloc w _ _) hst⟩
set_option maxRecDepth 100000 in
set_option maxHeartbeats 1000000 in
theorem oid_setNoLock_locale (w : World) (g : Nat) (cs : Array Value) (u : Value) (s : ByteArray) (hb : Blk w g 205 cs) (hp : cs[9]? = some u) :
    Calls Tryz.prog 255 #[.pointer (some ⟨g, 0, none⟩), .string ⟨#[108, 111, 99, 97, 108, 101]⟩, .iface 9 (.string s)] w (PutsNew g 205 cs 9 9 (.string s) w) := by
  have hb1 : Blk (w.alloc (.cells #[.string s] 9)) g 205 cs := hb.alloc _
  have hc : (w.alloc (.cells #[.string s] 9)).cell? ⟨g, 9, none⟩ = some u := by rw [hb1.cell]; exact hp
  have hf : (w.alloc (.cells #[.string s] 9)).frozen? ⟨g, 9, none⟩ = false := hb1.frozen 9
  have HB := Lib.hid hb1
  have HN := Lib.hid (Blk.new w 9 #[.string s])
  have HLT := Lib.hid hb.lt
  clear hb hb1 hp
  have hta := tb_text s
  go_enter Tryz.func255, Tryz.ntmps255
  go_wp2
  go_ret
  have hst := setCell_grown (w.alloc (.cells #[.string s] 9)) ⟨g, 9, none⟩ (.pointer (some ⟨w.heap.size, 0, none⟩))
  exact ⟨rfl, HB.out.set_ 9 _, HN.out.grown hst (by have := HLT.out; intro e; injection e with e; have e : g = w.heap.size := e.symm; omega), grown_trans (World.grownBy_alloc w _ _) hst⟩
set_option maxRecDepth 100000 in
set_option maxHeartbeats 1000000 in
theorem oid_setNoLock_middle_name (w : World) (g : Nat) (cs : Array Value) (u : Value) (s : ByteArray) (hb : Blk w g 205 cs) (hp : cs[10]? = some u) :
    Calls Tryz.prog 255 #[.pointer (some ⟨g, 0, none⟩), .string ⟨#[109, 105, 100, 100, 108, 101, 95, 110, 97, 109, 101]⟩, .iface 9 (.string s)] w (PutsNew g 205 cs 10 9 (.string s) w) := by
  have hb1 : Blk (w.alloc (.cells #[.string s] 9)) g 205 cs := hb.alloc _
  have hc : (w.alloc (.cells #[.string s] 9)).cell? ⟨g, 10, none⟩ = some u := by rw [hb1.cell]; exact hp
  have hf : (w.alloc (.cells #[.string s] 9)).frozen? ⟨g, 10, none⟩ = false := hb1.frozen 10
  have HB := Lib.hid hb1
  have HN := Lib.hid (Blk.new w 9 #[.string s])
  have HLT := Lib.hid hb.lt
  clear hb hb1 hp
  have hta := tb_text s
  go_enter Tryz.func255, Tryz.ntmps255
  go_wp2
  go_ret
  have hst := setCell_grown (w.alloc (.cells #[.string s] 9)) ⟨g, 10, none⟩ (.pointer (some ⟨w.heap.size, 0, none⟩))
  exact ⟨rfl, HB.out.set_ 10 _, HN.out.grown hst (by have := HLT.out; intro e; injection e with e; have e : g = w.heap.size := e.symm; omega), grown_trans (World.grownBy_alloc w _ _) hst⟩
set_option maxRecDepth 100000 in
set_option maxHeartbeats 1000000 in
theorem oid_setNoLock_name (w : World) (g : Nat) (cs : Array Value) (u : Value) (s : ByteArray) (hb : Blk w g 205 cs) (hp : cs[11]? = some u) :
    Calls Tryz.prog 255 #[.pointer (some ⟨g, 0, none⟩), .string ⟨#[110, 97, 109, 101]⟩, .iface 9 (.string s)] w (PutsNew g 205 cs 11 9 (.string s) w) := by
  have hb1 : Blk (w.alloc (.cells #[.string s] 9)) g 205 cs := hb.alloc _
  have hc : (w.alloc (.cells #[.string s] 9)).cell? ⟨g, 11, none⟩ = some u := by rw [hb1.cell]; exact hp
  have hf : (w.alloc (.cells #[.string s] 9)).frozen? ⟨g, 11, none⟩ = false := hb1.frozen 11
  have HB := Lib.hid hb1
  have HN := Lib.hid (Blk.new w 9 #[.string s])
  have HLT := Lib.hid hb.lt
  clear hb hb1 hp
  have hta := tb_text s
  go_enter Tryz.func255, Tryz.ntmps255
  go_wp2
  go_ret
  have hst := setCell_grown (w.alloc (.cells #[.string s] 9)) ⟨g, 11, none⟩ (.pointer (some ⟨w.heap.size, 0, none⟩))
  exact ⟨rfl, HB.out.set_ 11 _, HN.out.grown hst (by have := HLT.out; intro e; injection e with e; have e : g = w.heap.size := e.symm; omega), grown_trans (World.grownBy_alloc w _ _) hst⟩
set_option maxRecDepth 100000 in
set_option maxHeartbeats 1000000 in
theorem oid_setNoLock_nickname (w : World) (g : Nat) (cs : Array Value) (u : Value) (s : ByteArray) (hb : Blk w g 205 cs) (hp : cs[12]? = some u) :
    Calls Tryz.prog 255 #[.pointer (some ⟨g, 0, none⟩), .string ⟨#[110, 105, 99, 107, 110, 97, 109, 101]⟩, .iface 9 (.string s)] w (PutsNew g 205 cs 12 9 (.string s) w) := by
  have hb1 : Blk (w.alloc (.cells #[.string s] 9)) g 205 cs := hb.alloc _
  have hc : (w.alloc (.cells #[.string s] 9)).cell? ⟨g, 12, none⟩ = some u := by rw [hb1.cell]; exact hp
  have hf : (w.alloc (.cells #[.string s] 9)).frozen? ⟨g, 12, none⟩ = false := hb1.frozen 12
  have HB := Lib.hid hb1
  have HN := Lib.hid (Blk.new w 9 #[.string s])
  have HLT := Lib.hid hb.lt
  clear hb hb1 hp
  have hta := tb_text s
  go_enter Tryz.func255, Tryz.ntmps255
  go_wp2
  go_ret
  have hst := setCell_grown (w.alloc (.cells #[.string s] 9)) ⟨g, 12, none⟩ (.pointer (some ⟨w.heap.size, 0, none⟩))
  exact ⟨rfl, HB.out.set_ 12 _, HN.out.grown hst (by have := HLT.out; intro e; injection e with e; have e : g = w.heap.size := e.symm; omega), grown_trans (World.grownBy_alloc w _ _) hst⟩
set_option maxRecDepth 100000 in
set_option maxHeartbeats 1000000 in
theorem oid_setNoLock_phone_number (w : World) (g : Nat) (cs : Array Value) (u : Value) (s : ByteArray) (hb : Blk w g 205 cs) (hp : cs[13]? = some u) :
    Calls Tryz.prog 255 #[.pointer (some ⟨g, 0, none⟩), .string ⟨#[112, 104, 111, 110, 101, 95, 110, 117, 109, 98, 101, 114]⟩, .iface 9 (.string s)] w (PutsNew g 205 cs 13 9 (.string s) w) := by
  have hb1 : Blk (w.alloc (.cells #[.string s] 9)) g 205 cs := hb.alloc _
  have hc : (w.alloc (.cells #[.string s] 9)).cell? ⟨g, 13, none⟩ = some u := by rw [hb1.cell]; exact hp
  have hf : (w.alloc (.cells #[.string s] 9)).frozen? ⟨g, 13, none⟩ = false := hb1.frozen 13
  have HB := Lib.hid hb1
  have HN := Lib.hid (Blk.new w 9 #[.string s])
  have HLT := Lib.hid hb.lt
  clear hb hb1 hp
  have hta := tb_text s
  go_enter Tryz.func255, Tryz.ntmps255
  go_wp2
  go_ret
  have hst := setCell_grown (w.alloc (.cells #[.string s] 9)) ⟨g, 13, none⟩ (.pointer (some ⟨w.heap.size, 0, none⟩))
  exact ⟨rfl, HB.out.set_ 13 _, HN.out.grown hst (by have := HLT.out; intro e; injection e with e; have e : g = w.heap.size := e.symm; omega), grown_trans (World.grownBy_alloc w _ _) hst⟩
set_option maxRecDepth 100000 in
set_option maxHeartbeats 1000000 in
theorem oid_setNoLock_phone_number_verified (w : World) (g : Nat) (cs : Array Value) (u : Value) (s : Bool) (hb : Blk w g 205 cs) (hp : cs[14]? = some u) :
    Calls Tryz.prog 255 #[.pointer (some ⟨g, 0, none⟩), .string ⟨#[112, 104, 111, 110, 101, 95, 110, 117, 109, 98, 101, 114, 95, 118, 101, 114, 105, 102, 105, 101, 100]⟩, .iface 4 (.bool s)] w (PutsNew g 205 cs 14 4 (.bool s) w) := by
  have hb1 : Blk (w.alloc (.cells #[.bool s] 4)) g 205 cs := hb.alloc _
  have hc : (w.alloc (.cells #[.bool s] 4)).cell? ⟨g, 14, none⟩ = some u := by rw [hb1.cell]; exact hp
  have hf : (w.alloc (.cells #[.bool s] 4)).frozen? ⟨g, 14, none⟩ = false := hb1.frozen 14
  have HB := Lib.hid hb1
  have HN := Lib.hid (Blk.new w 4 #[.bool s])
  have HLT := Lib.hid hb.lt
  clear hb hb1 hp
  have hta1 := tb_b2 s
  go_enter Tryz.func255, Tryz.ntmps255
  go_wp2
  go_ret
  have hst := setCell_grown (w.alloc (.cells #[.bool s] 4)) ⟨g, 14, none⟩ (.pointer (some ⟨w.heap.size, 0, none⟩))
  exact ⟨rfl, HB.out.set_ 14 _, HN.out.grown hst (by have := HLT.out; intro e; injection e with e; have e : g = w.heap.size := e.symm; omega), grown_trans (World.grownBy_alloc w _ _) hst⟩
set_option maxRecDepth 100000 in
set_option maxHeartbeats 1000000 in
theorem oid_setNoLock_picture (w : World) (g : Nat) (cs : Array Value) (u : Value) (s : ByteArray) (hb : Blk w g 205 cs) (hp : cs[15]? = some u) :
    Calls Tryz.prog 255 #[.pointer (some ⟨g, 0, none⟩), .string ⟨#[112, 105, 99, 116, 117, 114, 101]⟩, .iface 9 (.string s)] w (PutsNew g 205 cs 15 9 (.string s) w) := by
  have hb1 : Blk (w.alloc (.cells #[.string s] 9)) g 205 cs := hb.alloc _
  have hc : (w.alloc (.cells #[.string s] 9)).cell? ⟨g, 15, none⟩ = some u := by rw [hb1.cell]; exact hp
  have hf : (w.alloc (.cells #[.string s] 9)).frozen? ⟨g, 15, none⟩ = false := hb1.frozen 15
  have HB := Lib.hid hb1
  have HN := Lib.hid (Blk.new w 9 #[.string s])
  have HLT := Lib.hid hb.lt
  clear hb hb1 hp
  have hta := tb_text s
  go_enter Tryz.func255, Tryz.ntmps255
  go_wp2
  go_ret
  have hst := setCell_grown (w.alloc (.cells #[.string s] 9)) ⟨g, 15, none⟩ (.pointer (some ⟨w.heap.size, 0, none⟩))
  exact ⟨rfl, HB.out.set_ 15 _, HN.out.grown hst (by have := HLT.out; intro e; injection e with e; have e : g = w.heap.size := e.symm; omega), grown_trans (World.grownBy_alloc w _ _) hst⟩
set_option maxRecDepth 100000 in
set_option maxHeartbeats 1000000 in
theorem oid_setNoLock_preferred_username (w : World) (g : Nat) (cs : Array Value) (u : Value) (s : ByteArray) (hb : Blk w g 205 cs) (hp : cs[16]? = some u) :
    Calls Tryz.prog 255 #[.pointer (some ⟨g, 0, none⟩), .string ⟨#[112, 114, 101, 102, 101, 114, 114, 101, 100, 95, 117, 115, 101, 114, 110, 97, 109, 101]⟩, .iface 9 (.string s)] w (PutsNew g 205 cs 16 9 (.string s) w) := by
  have hb1 : Blk (w.alloc (.cells #[.string s] 9)) g 205 cs := hb.alloc _
  have hc : (w.alloc (.cells #[.string s] 9)).cell? ⟨g, 16, none⟩ = some u := by rw [hb1.cell]; exact hp
  have hf : (w.alloc (.cells #[.string s] 9)).frozen? ⟨g, 16, none⟩ = false := hb1.frozen 16
  have HB := Lib.hid hb1
  have HN := Lib.hid (Blk.new w 9 #[.string s])
  have HLT := Lib.hid hb.lt
  clear hb hb1 hp
  have hta := tb_text s
  go_enter Tryz.func255, Tryz.ntmps255
  go_wp2
  go_ret
  have hst := setCell_grown (w.alloc (.cells #[.string s] 9)) ⟨g, 16, none⟩ (.pointer (some ⟨w.heap.size, 0, none⟩))
  exact ⟨rfl, HB.out.set_ 16 _, HN.out.grown hst (by have := HLT.out; intro e; injection e with e; have e : g = w.heap.size := e.symm; omega), grown_trans (World.grownBy_alloc w _ _) hst⟩
set_option maxRecDepth 100000 in
set_option maxHeartbeats 1000000 in
theorem oid_setNoLock_profile (w : World) (g : Nat) (cs : Array Value) (u : Value) (s : ByteArray) (hb : Blk w g 205 cs) (hp : cs[17]? = some u) :
    Calls Tryz.prog 255 #[.pointer (some ⟨g, 0, none⟩), .string ⟨#[112, 114, 111, 102, 105, 108, 101]⟩, .iface 9 (.string s)] w (PutsNew g 205 cs 17 9 (.string s) w) := by
  have hb1 : Blk (w.alloc (.cells #[.string s] 9)) g 205 cs := hb.alloc _
  have hc : (w.alloc (.cells #[.string s] 9)).cell? ⟨g, 17, none⟩ = some u := by rw [hb1.cell]; exact hp
  have hf : (w.alloc (.cells #[.string s] 9)).frozen? ⟨g, 17, none⟩ = false := hb1.frozen 17
  have HB := Lib.hid hb1
  have HN := Lib.hid (Blk.new w 9 #[.string s])
  have HLT := Lib.hid hb.lt
  clear hb hb1 hp
  have hta := tb_text s
  go_enter Tryz.func255, Tryz.ntmps255
  go_wp2
  go_ret
  have hst := setCell_grown (w.alloc (.cells #[.string s] 9)) ⟨g, 17, none⟩ (.pointer (some ⟨w.heap.size, 0, none⟩))
  exact ⟨rfl, HB.out.set_ 17 _, HN.out.grown hst (by have := HLT.out; intro e; injection e with e; have e : g = w.heap.size := e.symm; omega), grown_trans (World.grownBy_alloc w _ _) hst⟩
set_option maxRecDepth 100000 in
set_option maxHeartbeats 1000000 in
theorem oid_setNoLock_sub (w : World) (g : Nat) (cs : Array Value) (u : Value) (s : ByteArray) (hb : Blk w g 205 cs) (hp : cs[18]? = some u) :
    Calls Tryz.prog 255 #[.pointer (some ⟨g, 0, none⟩), .string ⟨#[115, 117, 98]⟩, .iface 9 (.string s)] w (PutsNew g 205 cs 18 9 (.string s) w) := by
  have hb1 : Blk (w.alloc (.cells #[.string s] 9)) g 205 cs := hb.alloc _
  have hc : (w.alloc (.cells #[.string s] 9)).cell? ⟨g, 18, none⟩ = some u := by rw [hb1.cell]; exact hp
  have hf : (w.alloc (.cells #[.string s] 9)).frozen? ⟨g, 18, none⟩ = false := hb1.frozen 18
  have HB := Lib.hid hb1
  have HN := Lib.hid (Blk.new w 9 #[.string s])
  have HLT := Lib.hid hb.lt
  clear hb hb1 hp
  have hta := tb_text s
  go_enter Tryz.func255, Tryz.ntmps255
  go_wp2
  go_ret
  have hst := setCell_grown (w.alloc (.cells #[.string s] 9)) ⟨g, 18, none⟩ (.pointer (some ⟨w.heap.size, 0, none⟩))
  exact ⟨rfl, HB.out.set_ 18 _, HN.out.grown hst (by have := HLT.out; intro e; injection e with e; have e : g = w.heap.size := e.symm; omega), grown_trans (World.grownBy_alloc w _ _) hst⟩
set_option maxRecDepth 100000 in
set_option maxHeartbeats 1000000 in
theorem oid_setNoLock_website (w : World) (g : Nat) (cs : Array Value) (u : Value) (s : ByteArray) (hb : Blk w g 205 cs) (hp : cs[19]? = some u) :
    Calls Tryz.prog 255 #[.pointer (some ⟨g, 0, none⟩), .string ⟨#[119, 101, 98, 115, 105, 116, 101]⟩, .iface 9 (.string s)] w (PutsNew g 205 cs 19 9 (.string s) w) := by
  have hb1 : Blk (w.alloc (.cells #[.string s] 9)) g 205 cs := hb.alloc _
  have hc : (w.alloc (.cells #[.string s] 9)).cell? ⟨g, 19, none⟩ = some u := by rw [hb1.cell]; exact hp
  have hf : (w.alloc (.cells #[.string s] 9)).frozen? ⟨g, 19, none⟩ = false := hb1.frozen 19
  have HB := Lib.hid hb1
  have HN := Lib.hid (Blk.new w 9 #[.string s])
  have HLT := Lib.hid hb.lt
  clear hb hb1 hp
  have hta := tb_text s
  go_enter Tryz.func255, Tryz.ntmps255
  go_wp2
  go_ret
  have hst := setCell_grown (w.alloc (.cells #[.string s] 9)) ⟨g, 19, none⟩ (.pointer (some ⟨w.heap.size, 0, none⟩))
  exact ⟨rfl, HB.out.set_ 19 _, HN.out.grown hst (by have := HLT.out; intro e; injection e with e; have e : g = w.heap.size := e.symm; omega), grown_trans (World.grownBy_alloc w _ _) hst⟩
set_option maxRecDepth 100000 in
set_option maxHeartbeats 1000000 in
theorem oid_setNoLock_zoneinfo (w : World) (g : Nat) (cs : Array Value) (u : Value) (s : ByteArray) (hb : Blk w g 205 cs) (hp : cs[20]? = some u) :
    Calls Tryz.prog 255 #[.pointer (some ⟨g, 0, none⟩), .string ⟨#[122, 111, 110, 101, 105, 110, 102, 111]⟩, .iface 9 (.string s)] w (PutsNew g 205 cs 20 9 (.string s) w) := by
  have hb1 : Blk (w.alloc (.cells #[.string s] 9)) g 205 cs := hb.alloc _
  have hc : (w.alloc (.cells #[.string s] 9)).cell? ⟨g, 20, none⟩ = some u := by rw [hb1.cell]; exact hp
  have hf : (w.alloc (.cells #[.string s] 9)).frozen? ⟨g, 20, none⟩ = false := hb1.frozen 20
  have HB := Lib.hid hb1
  have HN := Lib.hid (Blk.new w 9 #[.string s])
  have HLT := Lib.hid hb.lt
  clear hb hb1 hp
  have hta := tb_text s
  go_enter Tryz.func255, Tryz.ntmps255
  go_wp2
  go_ret
  have hst := setCell_grown (w.alloc (.cells #[.string s] 9)) ⟨g, 20, none⟩ (.pointer (some ⟨w.heap.size, 0, none⟩))
  exact ⟨rfl, HB.out.set_ 20 _, HN.out.grown hst (by have := HLT.out; intro e; injection e with e; have e : g = w.heap.size := e.symm; omega), grown_trans (World.grownBy_alloc w _ _) hst⟩
end Go.Proofs.YtapjbdigpleekaaGreat.Mp
