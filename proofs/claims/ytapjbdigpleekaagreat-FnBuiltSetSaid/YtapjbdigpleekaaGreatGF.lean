import Derived.Test.YtapjbdigpleekaaGreatGD
import Derived.Test.YtapjbdigpleekaaGreatGC
import Derived.Test.YtapjbdigpleekaaGreatGE
import Derived.Test.YtapjbdigpleekaaGreatGB
import Derived.Test.YtapjbdigpleekaaGreatGA
import Derived.Deep.RegionHeld3
import Derived.Deep.RegionLaw
import Derived.WideLaws
/- Set, Has, Remove of any name but those of which the laws say nothing, four kinds of maps; the conditions are on what lies in memory. Printed by gen_mpops.py. -/
set_option linter.unusedVariables false
set_option linter.unusedSimpArgs false
namespace Go.Proofs.YtapjbdigpleekaaGreat.Mp
open Go.RowKit Go.Proofs.YtapjbdigpleekaaGreat.K Go.Proofs.YtapjbdigpleekaaGreat.Cl
/-- The shape of a known name. -/
def shK (k : Nat) (n : ByteArray) : Option Nat := lookG ((fldK k).map (fun f => (f.1, f.2.2))) n
/-- A value as a name takes it; none, if it is of a wrong kind. -/
def takeK (k : Nat) (n : ByteArray) (x : PV) : Option PV := match shK k n with
  | none => some x
  | some 0 => match x with | .txt s => some (.txt s) | _ => none
  | some 1 => match x with | .tru b => some (.tru b) | _ => none
  | some _ => match x with | .lst l => some (.lst l) | .txt s => if 1 < k then some (.lst [s]) else none | _ => none
theorem shK_of {k : Nat} {f : ByteArray × Nat × Nat} (hf : f ∈ fldK k) : shK k f.1 = some f.2.2 := by
  refine lookG_of_mem ?_ (List.mem_map_of_mem (f := fun f : ByteArray × Nat × Nat => (f.1, f.2.2)) hf)
  rw [List.map_map]
  exact names_nodup k
theorem shK_none {k : Nat} {n : ByteArray} (h : isK k n = false) : shK k n = none := by
  unfold shK
  rw [lookG_none, List.map_map]
  intro hm
  obtain ⟨f, hf, e⟩ := List.mem_map.1 hm
  rw [← show f.1 = n from e, known_of hf] at h
  cases h
/-- What Set does: the value is taken, or there is an error. -/
def SetP (k B g : Nat) (S : List (ByteArray × PV)) (n : ByteArray) (x : PV) (w : World) (e : Ending) (w' : World) : Prop := match takeK k n x with
  | some y => PutP k B g (putG n y S) w e w'
  | none => ErrP k B g S w e w'
section
variable {k : Nat} {w : World} {B g F : Nat} {S : List (ByteArray × PV)} {f : ByteArray × Nat × Nat} {v : Value} {x : PV}
theorem set_of_rest {n : ByteArray} (hn : isK k n = false) (h : Calls Tryz.prog F #[.pointer (some ⟨g, 0, none⟩), .string n, v] w (PutP k B g (putG n x S) w)) : Calls Tryz.prog F #[.pointer (some ⟨g, 0, none⟩), .string n, v] w (SetP k B g S n x w) := by
  unfold SetP takeK
  rw [shK_none hn]
  exact h
theorem set_of_txt (hf : f ∈ fldK k) (hs : f.2.2 = 0) (h : Hd k w B g S) (hv : PVal w 0 v x) (hBw : B ≤ w.heap.size)
    (ok : ∀ s cs u, Blk w g (tyK k) cs → cs[f.2.1]? = some u → Calls Tryz.prog F #[.pointer (some ⟨g, 0, none⟩), .string f.1, .iface 9 (.string s)] w (PutsNew g (tyK k) cs f.2.1 9 (.string s) w))
    (er : ∀ v, NoTxt v → Calls Tryz.prog F #[.pointer (some ⟨g, 0, none⟩), .string f.1, v] w (ErrP k B g S w)) : Calls Tryz.prog F #[.pointer (some ⟨g, 0, none⟩), .string f.1, v] w (SetP k B g S f.1 x w) := by
  unfold SetP takeK
  rw [shK_of hf, hs]
  cases x with
  | txt s =>
    obtain ⟨cs, m, hp⟩ := h
    obtain ⟨u, hu, _⟩ := hp.fld f hf
    rw [show v = _ from hv]
    refine (ok s cs u hp.blk hu).mono ?_
    rintro e w' ⟨rfl, hb, hn, hg⟩
    refine ⟨rfl, hp.put hf hb hg ?_ trivial, below_of_grown hg hp.base hBw, keep_g hg⟩
    rw [hs]
    exact .inr ⟨s, _, rfl, rfl, hn⟩
  | tru b => exact er v (no_txt hv (fun s e => by cases e))
  | num z => exact er v (no_txt hv (fun s e => by cases e))
  | lst l => exact er v (no_txt hv (fun s e => by cases e))
theorem set_of_tru (hf : f ∈ fldK k) (hs : f.2.2 = 1) (h : Hd k w B g S) (hv : PVal w 0 v x) (hBw : B ≤ w.heap.size)
    (ok : ∀ s cs u, Blk w g (tyK k) cs → cs[f.2.1]? = some u → Calls Tryz.prog F #[.pointer (some ⟨g, 0, none⟩), .string f.1, .iface 4 (.bool s)] w (PutsNew g (tyK k) cs f.2.1 4 (.bool s) w))
    (er : ∀ v, NoTru v → Calls Tryz.prog F #[.pointer (some ⟨g, 0, none⟩), .string f.1, v] w (ErrP k B g S w)) : Calls Tryz.prog F #[.pointer (some ⟨g, 0, none⟩), .string f.1, v] w (SetP k B g S f.1 x w) := by
  unfold SetP takeK
  rw [shK_of hf, hs]
  cases x with
  | tru s =>
    obtain ⟨cs, m, hp⟩ := h
    obtain ⟨u, hu, _⟩ := hp.fld f hf
    rw [show v = _ from hv]
    refine (ok s cs u hp.blk hu).mono ?_
    rintro e w' ⟨rfl, hb, hn, hg⟩
    refine ⟨rfl, hp.put hf hb hg ?_ trivial, below_of_grown hg hp.base hBw, keep_g hg⟩
    rw [hs]
    exact .inr ⟨s, _, rfl, rfl, hn⟩
  | txt b => exact er v (no_tru hv (fun s e => by cases e))
  | num z => exact er v (no_tru hv (fun s e => by cases e))
  | lst l => exact er v (no_tru hv (fun s e => by cases e))
theorem set_of_crit (hk : k < 2) (hf : f ∈ fldK k) (hs : f.2.2 = 2) (hv : PVal w 0 v x) (hx : x.ok)
    (ok : ∀ a n c L, w.ownsRow 0 9 1 (.slice (some a) n c) n (strs L) → L.length ≤ 100000 → Calls Tryz.prog F #[.pointer (some ⟨g, 0, none⟩), .string f.1, .iface 23 (.slice (some a) n c)] w (PutP k B g (putG f.1 (.lst L) S) w))
    (er : ∀ v, NoLst v → Calls Tryz.prog F #[.pointer (some ⟨g, 0, none⟩), .string f.1, v] w (ErrP k B g S w)) : Calls Tryz.prog F #[.pointer (some ⟨g, 0, none⟩), .string f.1, v] w (SetP k B g S f.1 x w) := by
  unfold SetP takeK
  rw [shK_of hf, hs]
  cases x with
  | lst l =>
    obtain ⟨a, n, c, rfl, ho⟩ := hv
    exact ok a n c l ho hx
  | txt s =>
    simp only [if_neg (show ¬ 1 < k by omega)]
    exact er v (no_lst hv (fun s e => by cases e))
  | tru b => exact er v (no_lst hv (fun s e => by cases e))
  | num z => exact er v (no_lst hv (fun s e => by cases e))
theorem set_of_aud (hk : 1 < k) (hf : f ∈ fldK k) (hs : f.2.2 = 2) (hx : x.ok)
    (ok : (∀ L, audL x = some L → L.length ≤ 100000) → Calls Tryz.prog F #[.pointer (some ⟨g, 0, none⟩), .string f.1, v] w (fun e w' => match audL x with | some L => PutP k B g (putG f.1 (.lst L) S) w e w' | none => ErrP k B g S w e w')) : Calls Tryz.prog F #[.pointer (some ⟨g, 0, none⟩), .string f.1, v] w (SetP k B g S f.1 x w) := by
  unfold SetP takeK
  rw [shK_of hf, hs]
  cases x with
  | lst l => exact ok (fun L e => by injection e with e; subst e; exact hx)
  | txt s =>
    simp only [if_pos hk]
    exact ok (fun L e => by injection e with e; subst e; simp)
  | tru b => exact ok (fun L e => by cases e)
  | num z => exact ok (fun L e => by cases e)
theorem has_of_ptr (hf : f ∈ fldK k) (hs : f.2.2 < 2) (h : Hd k w B g S)
    (ok : ∀ cs p, Blk w g (tyK k) cs → cs[f.2.1]? = some (.pointer p) → Calls Tryz.prog F #[.pointer (some ⟨g, 0, none⟩), .string f.1] w (Says p.isSome w)) : Calls Tryz.prog F #[.pointer (some ⟨g, 0, none⟩), .string f.1] w (Says (lookG S f.1).isSome w) := by
  obtain ⟨cs, m, hp⟩ := h
  obtain ⟨u, hu, hc⟩ := hp.fld f hf
  have : ∃ p, u = .pointer p ∧ p.isSome = (lookG S f.1).isSome := by
    unfold FC at hc
    split at hc
    · rcases hc with ⟨e, rfl⟩ | ⟨x, b, e, rfl, _⟩
      · exact ⟨none, rfl, by rw [e]; rfl⟩
      · exact ⟨_, rfl, by rw [e]; rfl⟩
    · rcases hc with ⟨e, rfl⟩ | ⟨x, b, e, rfl, _⟩
      · exact ⟨none, rfl, by rw [e]; rfl⟩
      · exact ⟨_, rfl, by rw [e]; rfl⟩
    · rename_i h0 h1
      exact absurd hs (fun h => (by omega : f.2.2 = 0 ∨ f.2.2 = 1).elim h0 h1)
  obtain ⟨p, rfl, e⟩ := this
  rw [← e]
  exact ok cs p hp.blk hu
theorem has_of_lst (hf : f ∈ fldK k) (hs : f.2.2 = 2) (h : Hd k w B g S)
    (ok : ∀ cs A n c, Blk w g (tyK k) cs → cs[f.2.1]? = some (.slice A n c) → Calls Tryz.prog F #[.pointer (some ⟨g, 0, none⟩), .string f.1] w (Says A.isSome w)) : Calls Tryz.prog F #[.pointer (some ⟨g, 0, none⟩), .string f.1] w (Says (lookG S f.1).isSome w) := by
  obtain ⟨cs, m, hp⟩ := h
  obtain ⟨u, hu, hc⟩ := hp.fld f hf
  rw [hs] at hc
  rcases hc with ⟨e, rfl⟩ | ⟨l, a, n, c, e, rfl, _⟩
  · rw [e]; exact ok cs none 0 0 hp.blk hu
  · rw [e]; exact ok cs (some a) n c hp.blk hu
theorem rem_of (hf : f ∈ fldK k) (h : Hd k w B g S) (hBw : B ≤ w.heap.size) (z : Value) (hz : ∀ w', FC w' f.2.2 z none)
    (ok : ∀ cs u, Blk w g (tyK k) cs → cs[f.2.1]? = some u → Calls Tryz.prog F #[.pointer (some ⟨g, 0, none⟩), .string f.1] w (Puts g (tyK k) (cs.setIfInBounds f.2.1 z) w)) : Calls Tryz.prog F #[.pointer (some ⟨g, 0, none⟩), .string f.1] w (PutP k B g (dropG f.1 S) w) := by
  obtain ⟨cs, m, hp⟩ := h
  obtain ⟨u, hu, _⟩ := hp.fld f hf
  refine (ok cs u hp.blk hu).mono ?_
  rintro e w' ⟨rfl, hb, hg, _⟩
  exact ⟨rfl, hp.drop hf hb hg (hz w'), below_of_grown hg hp.base hBw, keep_g hg⟩
end
set_option maxRecDepth 100000 in
theorem jws_set {w : World} {B g : Nat} {S : List (ByteArray × PV)} (h : Hd 0 w B g S) {n : ByteArray} (hr : n ∉ othL 0) {v : Value} {x : PV} (hv : PVal w 0 v x) (hx : x.ok) (hBw : B ≤ w.heap.size) :
    Calls Tryz.prog 184 #[.pointer (some ⟨g, 0, none⟩), .string n, v] w (SetP 0 B g S n x w) := by
  cases hk : isK 0 n with
  | false => exact set_of_rest hk (jws_set_rest h ⟨hk, hr⟩ hv hx hBw)
  | true =>
    obtain ⟨f, hf, rfl⟩ := isK_iff.1 hk
    have hf2 := hf
    simp only [fldK, List.mem_cons, List.not_mem_nil] at hf2
    rcases hf2 with rfl | rfl | rfl | rfl | rfl | rfl | rfl | rfl | hf
    · exact set_of_txt hf rfl h hv hBw (fun s cs u hb hp => jws_setNoLock_cty w g cs u s hb hp) (fun v hta => jws_err_cty h hta hBw)
    · exact set_of_crit (by decide) hf rfl hv hx (fun a n c L ho hL => jws_set_crit_lst h ho hL hBw) (fun v hta => jws_err_crit h hta hBw)
    · exact set_of_txt hf rfl h hv hBw (fun s cs u hb hp => jws_setNoLock_jku w g cs u s hb hp) (fun v hta => jws_err_jku h hta hBw)
    · exact set_of_txt hf rfl h hv hBw (fun s cs u hb hp => jws_setNoLock_kid w g cs u s hb hp) (fun v hta => jws_err_kid h hta hBw)
    · exact set_of_txt hf rfl h hv hBw (fun s cs u hb hp => jws_setNoLock_typ w g cs u s hb hp) (fun v hta => jws_err_typ h hta hBw)
    · exact set_of_txt hf rfl h hv hBw (fun s cs u hb hp => jws_setNoLock_x5t w g cs u s hb hp) (fun v hta => jws_err_x5t h hta hBw)
    · exact set_of_txt hf rfl h hv hBw (fun s cs u hb hp => jws_setNoLock_x5t_S256 w g cs u s hb hp) (fun v hta => jws_err_x5t_S256 h hta hBw)
    · exact set_of_txt hf rfl h hv hBw (fun s cs u hb hp => jws_setNoLock_x5u w g cs u s hb hp) (fun v hta => jws_err_x5u h hta hBw)
    · exact absurd hf id
set_option maxRecDepth 100000 in
theorem jws_Has {w : World} {B g : Nat} {S : List (ByteArray × PV)} (h : Hd 0 w B g S) {n : ByteArray} (hr : n ∉ othL 0) :
    Calls Tryz.prog 170 #[.pointer (some ⟨g, 0, none⟩), .string n] w (Says (lookG S n).isSome w) := by
  cases hk : isK 0 n with
  | false => exact jws_Has_rest h ⟨hk, hr⟩
  | true =>
    obtain ⟨f, hf, rfl⟩ := isK_iff.1 hk
    have hf2 := hf
    simp only [fldK, List.mem_cons, List.not_mem_nil] at hf2
    rcases hf2 with rfl | rfl | rfl | rfl | rfl | rfl | rfl | rfl | hf
    · exact has_of_ptr hf (by decide) h (fun cs p hb hp => jws_Has_cty w g cs p hb hp)
    · exact has_of_lst hf rfl h (fun cs A n c hb hp => jws_Has_crit w g cs A n c hb hp)
    · exact has_of_ptr hf (by decide) h (fun cs p hb hp => jws_Has_jku w g cs p hb hp)
    · exact has_of_ptr hf (by decide) h (fun cs p hb hp => jws_Has_kid w g cs p hb hp)
    · exact has_of_ptr hf (by decide) h (fun cs p hb hp => jws_Has_typ w g cs p hb hp)
    · exact has_of_ptr hf (by decide) h (fun cs p hb hp => jws_Has_x5t w g cs p hb hp)
    · exact has_of_ptr hf (by decide) h (fun cs p hb hp => jws_Has_x5t_S256 w g cs p hb hp)
    · exact has_of_ptr hf (by decide) h (fun cs p hb hp => jws_Has_x5u w g cs p hb hp)
    · exact absurd hf id
set_option maxRecDepth 100000 in
theorem jws_Remove {w : World} {B g : Nat} {S : List (ByteArray × PV)} (h : Hd 0 w B g S) {n : ByteArray} (hr : n ∉ othL 0) (hBw : B ≤ w.heap.size) :
    Calls Tryz.prog 175 #[.pointer (some ⟨g, 0, none⟩), .string n] w (PutP 0 B g (dropG n S) w) := by
  cases hk : isK 0 n with
  | false => exact jws_Remove_rest h ⟨hk, hr⟩
  | true =>
    obtain ⟨f, hf, rfl⟩ := isK_iff.1 hk
    have hf2 := hf
    simp only [fldK, List.mem_cons, List.not_mem_nil] at hf2
    rcases hf2 with rfl | rfl | rfl | rfl | rfl | rfl | rfl | rfl | hf
    · exact rem_of hf h hBw (.pointer none) (fun w => .inl ⟨rfl, rfl⟩) (fun cs u hb hp => jws_Remove_cty w g cs u hb hp)
    · exact rem_of hf h hBw (.slice none 0 0) (fun w => .inl ⟨rfl, rfl⟩) (fun cs u hb hp => jws_Remove_crit w g cs u hb hp)
    · exact rem_of hf h hBw (.pointer none) (fun w => .inl ⟨rfl, rfl⟩) (fun cs u hb hp => jws_Remove_jku w g cs u hb hp)
    · exact rem_of hf h hBw (.pointer none) (fun w => .inl ⟨rfl, rfl⟩) (fun cs u hb hp => jws_Remove_kid w g cs u hb hp)
    · exact rem_of hf h hBw (.pointer none) (fun w => .inl ⟨rfl, rfl⟩) (fun cs u hb hp => jws_Remove_typ w g cs u hb hp)
    · exact rem_of hf h hBw (.pointer none) (fun w => .inl ⟨rfl, rfl⟩) (fun cs u hb hp => jws_Remove_x5t w g cs u hb hp)
    · exact rem_of hf h hBw (.pointer none) (fun w => .inl ⟨rfl, rfl⟩) (fun cs u hb hp => jws_Remove_x5t_S256 w g cs u hb hp)
    · exact rem_of hf h hBw (.pointer none) (fun w => .inl ⟨rfl, rfl⟩) (fun cs u hb hp => jws_Remove_x5u w g cs u hb hp)
    · exact absurd hf id
theorem jws_Set {w : World} {B g : Nat} {S : List (ByteArray × PV)} (h : Hd 0 w B g S) {n : ByteArray} (hr : n ∉ othL 0) {v : Value} {x : PV} (hv : PVal w 0 v x) (hx : x.ok) (hBw : B ≤ w.heap.size) :
    Calls Tryz.prog 176 #[.pointer (some ⟨g, 0, none⟩), .string n, v] w (SetP 0 B g S n x w) := by
  have HS := Lib.hid (jws_set h hr hv hx hBw)
  clear h hr hv hx hBw
  go_enter Tryz.func176, Tryz.ntmps176
  go_wp2_with fail
  refine HS.out.mono ?_
  intro e w' hs
  have hs2 := hs
  unfold SetP at hs2
  have HSS := Lib.hid hs
  clear hs HS
  split at hs2
  · obtain ⟨rfl, _⟩ := hs2
    go_wp2
    go_ret
    exact HSS.out
  · obtain ⟨⟨T, u, rfl⟩, _⟩ := hs2
    go_wp2
    go_ret
    exact HSS.out
set_option maxRecDepth 100000 in
theorem jwe_set {w : World} {B g : Nat} {S : List (ByteArray × PV)} (h : Hd 1 w B g S) {n : ByteArray} (hr : n ∉ othL 1) {v : Value} {x : PV} (hv : PVal w 0 v x) (hx : x.ok) (hBw : B ≤ w.heap.size) :
    Calls Tryz.prog 220 #[.pointer (some ⟨g, 0, none⟩), .string n, v] w (SetP 1 B g S n x w) := by
  cases hk : isK 1 n with
  | false => exact set_of_rest hk (jwe_set_rest h ⟨hk, hr⟩ hv hx hBw)
  | true =>
    obtain ⟨f, hf, rfl⟩ := isK_iff.1 hk
    have hf2 := hf
    simp only [fldK, List.mem_cons, List.not_mem_nil] at hf2
    rcases hf2 with rfl | rfl | rfl | rfl | rfl | rfl | rfl | rfl | hf
    · exact set_of_txt hf rfl h hv hBw (fun s cs u hb hp => jwe_setNoLock_cty w g cs u s hb hp) (fun v hta => jwe_err_cty h hta hBw)
    · exact set_of_crit (by decide) hf rfl hv hx (fun a n c L ho hL => jwe_set_crit_lst h ho hL hBw) (fun v hta => jwe_err_crit h hta hBw)
    · exact set_of_txt hf rfl h hv hBw (fun s cs u hb hp => jwe_setNoLock_jku w g cs u s hb hp) (fun v hta => jwe_err_jku h hta hBw)
    · exact set_of_txt hf rfl h hv hBw (fun s cs u hb hp => jwe_setNoLock_kid w g cs u s hb hp) (fun v hta => jwe_err_kid h hta hBw)
    · exact set_of_txt hf rfl h hv hBw (fun s cs u hb hp => jwe_setNoLock_typ w g cs u s hb hp) (fun v hta => jwe_err_typ h hta hBw)
    · exact set_of_txt hf rfl h hv hBw (fun s cs u hb hp => jwe_setNoLock_x5t w g cs u s hb hp) (fun v hta => jwe_err_x5t h hta hBw)
    · exact set_of_txt hf rfl h hv hBw (fun s cs u hb hp => jwe_setNoLock_x5t_S256 w g cs u s hb hp) (fun v hta => jwe_err_x5t_S256 h hta hBw)
    · exact set_of_txt hf rfl h hv hBw (fun s cs u hb hp => jwe_setNoLock_x5u w g cs u s hb hp) (fun v hta => jwe_err_x5u h hta hBw)
    · exact absurd hf id
set_option maxRecDepth 100000 in
theorem jwe_Has {w : World} {B g : Nat} {S : List (ByteArray × PV)} (h : Hd 1 w B g S) {n : ByteArray} (hr : n ∉ othL 1) :
    Calls Tryz.prog 207 #[.pointer (some ⟨g, 0, none⟩), .string n] w (Says (lookG S n).isSome w) := by
  cases hk : isK 1 n with
  | false => exact jwe_Has_rest h ⟨hk, hr⟩
  | true =>
    obtain ⟨f, hf, rfl⟩ := isK_iff.1 hk
    have hf2 := hf
    simp only [fldK, List.mem_cons, List.not_mem_nil] at hf2
    rcases hf2 with rfl | rfl | rfl | rfl | rfl | rfl | rfl | rfl | hf
    · exact has_of_ptr hf (by decide) h (fun cs p hb hp => jwe_Has_cty w g cs p hb hp)
    · exact has_of_lst hf rfl h (fun cs A n c hb hp => jwe_Has_crit w g cs A n c hb hp)
    · exact has_of_ptr hf (by decide) h (fun cs p hb hp => jwe_Has_jku w g cs p hb hp)
    · exact has_of_ptr hf (by decide) h (fun cs p hb hp => jwe_Has_kid w g cs p hb hp)
    · exact has_of_ptr hf (by decide) h (fun cs p hb hp => jwe_Has_typ w g cs p hb hp)
    · exact has_of_ptr hf (by decide) h (fun cs p hb hp => jwe_Has_x5t w g cs p hb hp)
    · exact has_of_ptr hf (by decide) h (fun cs p hb hp => jwe_Has_x5t_S256 w g cs p hb hp)
    · exact has_of_ptr hf (by decide) h (fun cs p hb hp => jwe_Has_x5u w g cs p hb hp)
    · exact absurd hf id
set_option maxRecDepth 100000 in
theorem jwe_Remove {w : World} {B g : Nat} {S : List (ByteArray × PV)} (h : Hd 1 w B g S) {n : ByteArray} (hr : n ∉ othL 1) (hBw : B ≤ w.heap.size) :
    Calls Tryz.prog 212 #[.pointer (some ⟨g, 0, none⟩), .string n] w (PutP 1 B g (dropG n S) w) := by
  cases hk : isK 1 n with
  | false => exact jwe_Remove_rest h ⟨hk, hr⟩
  | true =>
    obtain ⟨f, hf, rfl⟩ := isK_iff.1 hk
    have hf2 := hf
    simp only [fldK, List.mem_cons, List.not_mem_nil] at hf2
    rcases hf2 with rfl | rfl | rfl | rfl | rfl | rfl | rfl | rfl | hf
    · exact rem_of hf h hBw (.pointer none) (fun w => .inl ⟨rfl, rfl⟩) (fun cs u hb hp => jwe_Remove_cty w g cs u hb hp)
    · exact rem_of hf h hBw (.slice none 0 0) (fun w => .inl ⟨rfl, rfl⟩) (fun cs u hb hp => jwe_Remove_crit w g cs u hb hp)
    · exact rem_of hf h hBw (.pointer none) (fun w => .inl ⟨rfl, rfl⟩) (fun cs u hb hp => jwe_Remove_jku w g cs u hb hp)
    · exact rem_of hf h hBw (.pointer none) (fun w => .inl ⟨rfl, rfl⟩) (fun cs u hb hp => jwe_Remove_kid w g cs u hb hp)
    · exact rem_of hf h hBw (.pointer none) (fun w => .inl ⟨rfl, rfl⟩) (fun cs u hb hp => jwe_Remove_typ w g cs u hb hp)
    · exact rem_of hf h hBw (.pointer none) (fun w => .inl ⟨rfl, rfl⟩) (fun cs u hb hp => jwe_Remove_x5t w g cs u hb hp)
    · exact rem_of hf h hBw (.pointer none) (fun w => .inl ⟨rfl, rfl⟩) (fun cs u hb hp => jwe_Remove_x5t_S256 w g cs u hb hp)
    · exact rem_of hf h hBw (.pointer none) (fun w => .inl ⟨rfl, rfl⟩) (fun cs u hb hp => jwe_Remove_x5u w g cs u hb hp)
    · exact absurd hf id
theorem jwe_Set {w : World} {B g : Nat} {S : List (ByteArray × PV)} (h : Hd 1 w B g S) {n : ByteArray} (hr : n ∉ othL 1) {v : Value} {x : PV} (hv : PVal w 0 v x) (hx : x.ok) (hBw : B ≤ w.heap.size) :
    Calls Tryz.prog 213 #[.pointer (some ⟨g, 0, none⟩), .string n, v] w (SetP 1 B g S n x w) := by
  have HS := Lib.hid (jwe_set h hr hv hx hBw)
  clear h hr hv hx hBw
  go_enter Tryz.func213, Tryz.ntmps213
  go_wp2_with fail
  refine HS.out.mono ?_
  intro e w' hs
  have hs2 := hs
  unfold SetP at hs2
  have HSS := Lib.hid hs
  clear hs HS
  split at hs2
  · obtain ⟨rfl, _⟩ := hs2
    go_wp2
    go_ret
    exact HSS.out
  · obtain ⟨⟨T, u, rfl⟩, _⟩ := hs2
    go_wp2
    go_ret
    exact HSS.out
set_option maxRecDepth 100000 in
theorem jwt_set {w : World} {B g : Nat} {S : List (ByteArray × PV)} (h : Hd 2 w B g S) {n : ByteArray} (hr : n ∉ othL 2) {v : Value} {x : PV} (hv : PVal w 0 v x) (hx : x.ok) (hBw : B ≤ w.heap.size) :
    Calls Tryz.prog 271 #[.pointer (some ⟨g, 0, none⟩), .string n, v] w (SetP 2 B g S n x w) := by
  cases hk : isK 2 n with
  | false => exact set_of_rest hk (jwt_set_rest h ⟨hk, hr⟩ hv hx hBw)
  | true =>
    obtain ⟨f, hf, rfl⟩ := isK_iff.1 hk
    have hf2 := hf
    simp only [fldK, List.mem_cons, List.not_mem_nil] at hf2
    rcases hf2 with rfl | rfl | rfl | rfl | hf
    · exact set_of_aud (by decide) hf rfl hx (fun hL => jwt_set_aud h hv hL hBw)
    · exact set_of_txt hf rfl h hv hBw (fun s cs u hb hp => jwt_setNoLock_iss w g cs u s hb hp) (fun v hta => jwt_err_iss h hta hBw)
    · exact set_of_txt hf rfl h hv hBw (fun s cs u hb hp => jwt_setNoLock_jti w g cs u s hb hp) (fun v hta => jwt_err_jti h hta hBw)
    · exact set_of_txt hf rfl h hv hBw (fun s cs u hb hp => jwt_setNoLock_sub w g cs u s hb hp) (fun v hta => jwt_err_sub h hta hBw)
    · exact absurd hf id
set_option maxRecDepth 100000 in
theorem jwt_Has {w : World} {B g : Nat} {S : List (ByteArray × PV)} (h : Hd 2 w B g S) {n : ByteArray} (hr : n ∉ othL 2) :
    Calls Tryz.prog 261 #[.pointer (some ⟨g, 0, none⟩), .string n] w (Says (lookG S n).isSome w) := by
  cases hk : isK 2 n with
  | false => exact jwt_Has_rest h ⟨hk, hr⟩
  | true =>
    obtain ⟨f, hf, rfl⟩ := isK_iff.1 hk
    have hf2 := hf
    simp only [fldK, List.mem_cons, List.not_mem_nil] at hf2
    rcases hf2 with rfl | rfl | rfl | rfl | hf
    · exact has_of_lst hf rfl h (fun cs A n c hb hp => jwt_Has_aud w g cs A n c hb hp)
    · exact has_of_ptr hf (by decide) h (fun cs p hb hp => jwt_Has_iss w g cs p hb hp)
    · exact has_of_ptr hf (by decide) h (fun cs p hb hp => jwt_Has_jti w g cs p hb hp)
    · exact has_of_ptr hf (by decide) h (fun cs p hb hp => jwt_Has_sub w g cs p hb hp)
    · exact absurd hf id
set_option maxRecDepth 100000 in
theorem jwt_Remove {w : World} {B g : Nat} {S : List (ByteArray × PV)} (h : Hd 2 w B g S) {n : ByteArray} (hr : n ∉ othL 2) (hBw : B ≤ w.heap.size) :
    Calls Tryz.prog 266 #[.pointer (some ⟨g, 0, none⟩), .string n] w (PutP 2 B g (dropG n S) w) := by
  cases hk : isK 2 n with
  | false => exact jwt_Remove_rest h ⟨hk, hr⟩
  | true =>
    obtain ⟨f, hf, rfl⟩ := isK_iff.1 hk
    have hf2 := hf
    simp only [fldK, List.mem_cons, List.not_mem_nil] at hf2
    rcases hf2 with rfl | rfl | rfl | rfl | hf
    · exact rem_of hf h hBw (.slice none 0 0) (fun w => .inl ⟨rfl, rfl⟩) (fun cs u hb hp => jwt_Remove_aud w g cs u hb hp)
    · exact rem_of hf h hBw (.pointer none) (fun w => .inl ⟨rfl, rfl⟩) (fun cs u hb hp => jwt_Remove_iss w g cs u hb hp)
    · exact rem_of hf h hBw (.pointer none) (fun w => .inl ⟨rfl, rfl⟩) (fun cs u hb hp => jwt_Remove_jti w g cs u hb hp)
    · exact rem_of hf h hBw (.pointer none) (fun w => .inl ⟨rfl, rfl⟩) (fun cs u hb hp => jwt_Remove_sub w g cs u hb hp)
    · exact absurd hf id
theorem jwt_Set {w : World} {B g : Nat} {S : List (ByteArray × PV)} (h : Hd 2 w B g S) {n : ByteArray} (hr : n ∉ othL 2) {v : Value} {x : PV} (hv : PVal w 0 v x) (hx : x.ok) (hBw : B ≤ w.heap.size) :
    Calls Tryz.prog 267 #[.pointer (some ⟨g, 0, none⟩), .string n, v] w (SetP 2 B g S n x w) := by
  have HS := Lib.hid (jwt_set h hr hv hx hBw)
  clear h hr hv hx hBw
  go_enter Tryz.func267, Tryz.ntmps267
  go_wp2_with fail
  refine HS.out.mono ?_
  intro e w' hs
  have hs2 := hs
  unfold SetP at hs2
  have HSS := Lib.hid hs
  clear hs HS
  split at hs2
  · obtain ⟨rfl, _⟩ := hs2
    go_wp2
    go_ret
    exact HSS.out
  · obtain ⟨⟨T, u, rfl⟩, _⟩ := hs2
    go_wp2
    go_ret
    exact HSS.out
set_option maxRecDepth 100000 in
theorem oid_set {w : World} {B g : Nat} {S : List (ByteArray × PV)} (h : Hd 3 w B g S) {n : ByteArray} (hr : n ∉ othL 3) {v : Value} {x : PV} (hv : PVal w 0 v x) (hx : x.ok) (hBw : B ≤ w.heap.size) :
    Calls Tryz.prog 255 #[.pointer (some ⟨g, 0, none⟩), .string n, v] w (SetP 3 B g S n x w) := by
  cases hk : isK 3 n with
  | false => exact set_of_rest hk (oid_set_rest h ⟨hk, hr⟩ hv hx hBw)
  | true =>
    obtain ⟨f, hf, rfl⟩ := isK_iff.1 hk
    have hf2 := hf
    simp only [fldK, List.mem_cons, List.not_mem_nil] at hf2
    rcases hf2 with rfl | rfl | rfl | rfl | rfl | rfl | rfl | rfl | rfl | rfl | rfl | rfl | rfl | rfl | rfl | rfl | rfl | rfl | rfl | rfl | hf
    · exact set_of_aud (by decide) hf rfl hx (fun hL => oid_set_aud h hv hL hBw)
    · exact set_of_txt hf rfl h hv hBw (fun s cs u hb hp => oid_setNoLock_email w g cs u s hb hp) (fun v hta => oid_err_email h hta hBw)
    · exact set_of_tru hf rfl h hv hBw (fun s cs u hb hp => oid_setNoLock_email_verified w g cs u s hb hp) (fun v hta => oid_err_email_verified h hta hBw)
    · exact set_of_txt hf rfl h hv hBw (fun s cs u hb hp => oid_setNoLock_family_name w g cs u s hb hp) (fun v hta => oid_err_family_name h hta hBw)
    · exact set_of_txt hf rfl h hv hBw (fun s cs u hb hp => oid_setNoLock_gender w g cs u s hb hp) (fun v hta => oid_err_gender h hta hBw)
    · exact set_of_txt hf rfl h hv hBw (fun s cs u hb hp => oid_setNoLock_given_name w g cs u s hb hp) (fun v hta => oid_err_given_name h hta hBw)
    · exact set_of_txt hf rfl h hv hBw (fun s cs u hb hp => oid_setNoLock_iss w g cs u s hb hp) (fun v hta => oid_err_iss h hta hBw)
    · exact set_of_txt hf rfl h hv hBw (fun s cs u hb hp => oid_setNoLock_jti w g cs u s hb hp) (fun v hta => oid_err_jti h hta hBw)
    · exact set_of_txt hf rfl h hv hBw (fun s cs u hb hp => oid_setNoLock_locale w g cs u s hb hp) (fun v hta => oid_err_locale h hta hBw)
    · exact set_of_txt hf rfl h hv hBw (fun s cs u hb hp => oid_setNoLock_middle_name w g cs u s hb hp) (fun v hta => oid_err_middle_name h hta hBw)
    · exact set_of_txt hf rfl h hv hBw (fun s cs u hb hp => oid_setNoLock_name w g cs u s hb hp) (fun v hta => oid_err_name h hta hBw)
    · exact set_of_txt hf rfl h hv hBw (fun s cs u hb hp => oid_setNoLock_nickname w g cs u s hb hp) (fun v hta => oid_err_nickname h hta hBw)
    · exact set_of_txt hf rfl h hv hBw (fun s cs u hb hp => oid_setNoLock_phone_number w g cs u s hb hp) (fun v hta => oid_err_phone_number h hta hBw)
    · exact set_of_tru hf rfl h hv hBw (fun s cs u hb hp => oid_setNoLock_phone_number_verified w g cs u s hb hp) (fun v hta => oid_err_phone_number_verified h hta hBw)
    · exact set_of_txt hf rfl h hv hBw (fun s cs u hb hp => oid_setNoLock_picture w g cs u s hb hp) (fun v hta => oid_err_picture h hta hBw)
    · exact set_of_txt hf rfl h hv hBw (fun s cs u hb hp => oid_setNoLock_preferred_username w g cs u s hb hp) (fun v hta => oid_err_preferred_username h hta hBw)
    · exact set_of_txt hf rfl h hv hBw (fun s cs u hb hp => oid_setNoLock_profile w g cs u s hb hp) (fun v hta => oid_err_profile h hta hBw)
    · exact set_of_txt hf rfl h hv hBw (fun s cs u hb hp => oid_setNoLock_sub w g cs u s hb hp) (fun v hta => oid_err_sub h hta hBw)
    · exact set_of_txt hf rfl h hv hBw (fun s cs u hb hp => oid_setNoLock_website w g cs u s hb hp) (fun v hta => oid_err_website h hta hBw)
    · exact set_of_txt hf rfl h hv hBw (fun s cs u hb hp => oid_setNoLock_zoneinfo w g cs u s hb hp) (fun v hta => oid_err_zoneinfo h hta hBw)
    · exact absurd hf id
set_option maxRecDepth 100000 in
theorem oid_Has {w : World} {B g : Nat} {S : List (ByteArray × PV)} (h : Hd 3 w B g S) {n : ByteArray} (hr : n ∉ othL 3) :
    Calls Tryz.prog 234 #[.pointer (some ⟨g, 0, none⟩), .string n] w (Says (lookG S n).isSome w) := by
  cases hk : isK 3 n with
  | false => exact oid_Has_rest h ⟨hk, hr⟩
  | true =>
    obtain ⟨f, hf, rfl⟩ := isK_iff.1 hk
    have hf2 := hf
    simp only [fldK, List.mem_cons, List.not_mem_nil] at hf2
    rcases hf2 with rfl | rfl | rfl | rfl | rfl | rfl | rfl | rfl | rfl | rfl | rfl | rfl | rfl | rfl | rfl | rfl | rfl | rfl | rfl | rfl | hf
    · exact has_of_lst hf rfl h (fun cs A n c hb hp => oid_Has_aud w g cs A n c hb hp)
    · exact has_of_ptr hf (by decide) h (fun cs p hb hp => oid_Has_email w g cs p hb hp)
    · exact has_of_ptr hf (by decide) h (fun cs p hb hp => oid_Has_email_verified w g cs p hb hp)
    · exact has_of_ptr hf (by decide) h (fun cs p hb hp => oid_Has_family_name w g cs p hb hp)
    · exact has_of_ptr hf (by decide) h (fun cs p hb hp => oid_Has_gender w g cs p hb hp)
    · exact has_of_ptr hf (by decide) h (fun cs p hb hp => oid_Has_given_name w g cs p hb hp)
    · exact has_of_ptr hf (by decide) h (fun cs p hb hp => oid_Has_iss w g cs p hb hp)
    · exact has_of_ptr hf (by decide) h (fun cs p hb hp => oid_Has_jti w g cs p hb hp)
    · exact has_of_ptr hf (by decide) h (fun cs p hb hp => oid_Has_locale w g cs p hb hp)
    · exact has_of_ptr hf (by decide) h (fun cs p hb hp => oid_Has_middle_name w g cs p hb hp)
    · exact has_of_ptr hf (by decide) h (fun cs p hb hp => oid_Has_name w g cs p hb hp)
    · exact has_of_ptr hf (by decide) h (fun cs p hb hp => oid_Has_nickname w g cs p hb hp)
    · exact has_of_ptr hf (by decide) h (fun cs p hb hp => oid_Has_phone_number w g cs p hb hp)
    · exact has_of_ptr hf (by decide) h (fun cs p hb hp => oid_Has_phone_number_verified w g cs p hb hp)
    · exact has_of_ptr hf (by decide) h (fun cs p hb hp => oid_Has_picture w g cs p hb hp)
    · exact has_of_ptr hf (by decide) h (fun cs p hb hp => oid_Has_preferred_username w g cs p hb hp)
    · exact has_of_ptr hf (by decide) h (fun cs p hb hp => oid_Has_profile w g cs p hb hp)
    · exact has_of_ptr hf (by decide) h (fun cs p hb hp => oid_Has_sub w g cs p hb hp)
    · exact has_of_ptr hf (by decide) h (fun cs p hb hp => oid_Has_website w g cs p hb hp)
    · exact has_of_ptr hf (by decide) h (fun cs p hb hp => oid_Has_zoneinfo w g cs p hb hp)
    · exact absurd hf id
set_option maxRecDepth 100000 in
theorem oid_Remove {w : World} {B g : Nat} {S : List (ByteArray × PV)} (h : Hd 3 w B g S) {n : ByteArray} (hr : n ∉ othL 3) (hBw : B ≤ w.heap.size) :
    Calls Tryz.prog 248 #[.pointer (some ⟨g, 0, none⟩), .string n] w (PutP 3 B g (dropG n S) w) := by
  cases hk : isK 3 n with
  | false => exact oid_Remove_rest h ⟨hk, hr⟩
  | true =>
    obtain ⟨f, hf, rfl⟩ := isK_iff.1 hk
    have hf2 := hf
    simp only [fldK, List.mem_cons, List.not_mem_nil] at hf2
    rcases hf2 with rfl | rfl | rfl | rfl | rfl | rfl | rfl | rfl | rfl | rfl | rfl | rfl | rfl | rfl | rfl | rfl | rfl | rfl | rfl | rfl | hf
    · exact rem_of hf h hBw (.slice none 0 0) (fun w => .inl ⟨rfl, rfl⟩) (fun cs u hb hp => oid_Remove_aud w g cs u hb hp)
    · exact rem_of hf h hBw (.pointer none) (fun w => .inl ⟨rfl, rfl⟩) (fun cs u hb hp => oid_Remove_email w g cs u hb hp)
    · exact rem_of hf h hBw (.pointer none) (fun w => .inl ⟨rfl, rfl⟩) (fun cs u hb hp => oid_Remove_email_verified w g cs u hb hp)
    · exact rem_of hf h hBw (.pointer none) (fun w => .inl ⟨rfl, rfl⟩) (fun cs u hb hp => oid_Remove_family_name w g cs u hb hp)
    · exact rem_of hf h hBw (.pointer none) (fun w => .inl ⟨rfl, rfl⟩) (fun cs u hb hp => oid_Remove_gender w g cs u hb hp)
    · exact rem_of hf h hBw (.pointer none) (fun w => .inl ⟨rfl, rfl⟩) (fun cs u hb hp => oid_Remove_given_name w g cs u hb hp)
    · exact rem_of hf h hBw (.pointer none) (fun w => .inl ⟨rfl, rfl⟩) (fun cs u hb hp => oid_Remove_iss w g cs u hb hp)
    · exact rem_of hf h hBw (.pointer none) (fun w => .inl ⟨rfl, rfl⟩) (fun cs u hb hp => oid_Remove_jti w g cs u hb hp)
    · exact rem_of hf h hBw (.pointer none) (fun w => .inl ⟨rfl, rfl⟩) (fun cs u hb hp => oid_Remove_locale w g cs u hb hp)
    · exact rem_of hf h hBw (.pointer none) (fun w => .inl ⟨rfl, rfl⟩) (fun cs u hb hp => oid_Remove_middle_name w g cs u hb hp)
    · exact rem_of hf h hBw (.pointer none) (fun w => .inl ⟨rfl, rfl⟩) (fun cs u hb hp => oid_Remove_name w g cs u hb hp)
    · exact rem_of hf h hBw (.pointer none) (fun w => .inl ⟨rfl, rfl⟩) (fun cs u hb hp => oid_Remove_nickname w g cs u hb hp)
    · exact rem_of hf h hBw (.pointer none) (fun w => .inl ⟨rfl, rfl⟩) (fun cs u hb hp => oid_Remove_phone_number w g cs u hb hp)
    · exact rem_of hf h hBw (.pointer none) (fun w => .inl ⟨rfl, rfl⟩) (fun cs u hb hp => oid_Remove_phone_number_verified w g cs u hb hp)
    · exact rem_of hf h hBw (.pointer none) (fun w => .inl ⟨rfl, rfl⟩) (fun cs u hb hp => oid_Remove_picture w g cs u hb hp)
    · exact rem_of hf h hBw (.pointer none) (fun w => .inl ⟨rfl, rfl⟩) (fun cs u hb hp => oid_Remove_preferred_username w g cs u hb hp)
    · exact rem_of hf h hBw (.pointer none) (fun w => .inl ⟨rfl, rfl⟩) (fun cs u hb hp => oid_Remove_profile w g cs u hb hp)
    · exact rem_of hf h hBw (.pointer none) (fun w => .inl ⟨rfl, rfl⟩) (fun cs u hb hp => oid_Remove_sub w g cs u hb hp)
    · exact rem_of hf h hBw (.pointer none) (fun w => .inl ⟨rfl, rfl⟩) (fun cs u hb hp => oid_Remove_website w g cs u hb hp)
    · exact rem_of hf h hBw (.pointer none) (fun w => .inl ⟨rfl, rfl⟩) (fun cs u hb hp => oid_Remove_zoneinfo w g cs u hb hp)
    · exact absurd hf id
theorem oid_Set {w : World} {B g : Nat} {S : List (ByteArray × PV)} (h : Hd 3 w B g S) {n : ByteArray} (hr : n ∉ othL 3) {v : Value} {x : PV} (hv : PVal w 0 v x) (hx : x.ok) (hBw : B ≤ w.heap.size) :
    Calls Tryz.prog 249 #[.pointer (some ⟨g, 0, none⟩), .string n, v] w (SetP 3 B g S n x w) := by
  have HS := Lib.hid (oid_set h hr hv hx hBw)
  clear h hr hv hx hBw
  go_enter Tryz.func249, Tryz.ntmps249
  go_wp2_with fail
  refine HS.out.mono ?_
  intro e w' hs
  have hs2 := hs
  unfold SetP at hs2
  have HSS := Lib.hid hs
  clear hs HS
  split at hs2
  · obtain ⟨rfl, _⟩ := hs2
    go_wp2
    go_ret
    exact HSS.out
  · obtain ⟨⟨T, u, rfl⟩, _⟩ := hs2
    go_wp2
    go_ret
    exact HSS.out
/-- The functions of the four kinds. -/
def fSet (k : Nat) : Nat := match k with | 0 => 176 | 1 => 213 | 2 => 267 | _ => 249
def fHas (k : Nat) : Nat := match k with | 0 => 170 | 1 => 207 | 2 => 261 | _ => 234
def fRem (k : Nat) : Nat := match k with | 0 => 175 | 1 => 212 | 2 => 266 | _ => 248
section
variable {k : Nat} {w : World} {B g : Nat} {S : List (ByteArray × PV)} {n : ByteArray} {v : Value} {x : PV}
theorem Set_calls (hk : k < 4) (h : Hd k w B g S) (hr : n ∉ othL k) (hv : PVal w 0 v x) (hx : x.ok) (hBw : B ≤ w.heap.size) :
    Calls Tryz.prog (fSet k) #[.pointer (some ⟨g, 0, none⟩), .string n, v] w (SetP k B g S n x w) := by
  rcases (by omega : k = 0 ∨ k = 1 ∨ k = 2 ∨ k = 3) with rfl | rfl | rfl | rfl
  · exact jws_Set h hr hv hx hBw
  · exact jwe_Set h hr hv hx hBw
  · exact jwt_Set h hr hv hx hBw
  · exact oid_Set h hr hv hx hBw
theorem Has_calls (hk : k < 4) (h : Hd k w B g S) (hr : n ∉ othL k) : Calls Tryz.prog (fHas k) #[.pointer (some ⟨g, 0, none⟩), .string n] w (Says (lookG S n).isSome w) := by
  rcases (by omega : k = 0 ∨ k = 1 ∨ k = 2 ∨ k = 3) with rfl | rfl | rfl | rfl
  · exact jws_Has h hr
  · exact jwe_Has h hr
  · exact jwt_Has h hr
  · exact oid_Has h hr
theorem Remove_calls (hk : k < 4) (h : Hd k w B g S) (hr : n ∉ othL k) (hBw : B ≤ w.heap.size) : Calls Tryz.prog (fRem k) #[.pointer (some ⟨g, 0, none⟩), .string n] w (PutP k B g (dropG n S) w) := by
  rcases (by omega : k = 0 ∨ k = 1 ∨ k = 2 ∨ k = 3) with rfl | rfl | rfl | rfl
  · exact jws_Remove h hr hBw
  · exact jwe_Remove h hr hBw
  · exact jwt_Remove h hr hBw
  · exact oid_Remove h hr hBw
end
end Go.Proofs.YtapjbdigpleekaaGreat.Mp

/- Plain law: maps as lists of names and plain values, told apart by what a name has; steps. No program in sight. -/
set_option linter.unusedVariables false
set_option linter.unusedSimpArgs false
namespace Go.Proofs.YtapjbdigpleekaaGreat.Mp
open Go.RowKit Go.Proofs.YtapjbdigpleekaaGreat.K Go.Proofs.YtapjbdigpleekaaGreat.Cl
abbrev NP := ByteArray × PV
/-- Two maps have the same. -/
def Same (S T : List NP) : Prop := ∀ n, lookG S n = lookG T n
theorem Same.refl (S : List NP) : Same S S := fun _ => rfl
theorem Same.symm {S T : List NP} (h : Same S T) : Same T S := fun n => (h n).symm
theorem Same.trans {S T U : List NP} (h : Same S T) (k : Same T U) : Same S U := fun n => (h n).trans (k n)
theorem nodup_of_names {S : List NP} (h : (S.map (·.1)).Nodup) : S.Nodup := by
  rw [List.nodup_iff_pairwise_ne, List.pairwise_map] at h
  rw [List.nodup_iff_pairwise_ne]
  exact h.imp (fun h e => h (by rw [e]))
theorem mem_look {S : List NP} (h : (S.map (·.1)).Nodup) (p : NP) : p ∈ S ↔ lookG S p.1 = some p.2 :=
  ⟨fun hp => lookG_of_mem h hp, fun hl => lookG_mem hl⟩
theorem Same.perm {S T : List NP} (h : Same S T) (hs : (S.map (·.1)).Nodup) (ht : (T.map (·.1)).Nodup) : S.Perm T :=
  (List.perm_ext_iff_of_nodup (nodup_of_names hs) (nodup_of_names ht)).2 fun p => by rw [mem_look hs, mem_look ht, h]
theorem same_of_perm {S T : List NP} (h : S.Perm T) (hs : (S.map (·.1)).Nodup) : Same S T := fun n => by
  have ht : (T.map (·.1)).Nodup := (h.map (·.1)).nodup_iff.1 hs
  cases hl : lookG S n with
  | none =>
    rw [lookG_none] at hl
    exact (lookG_none.2 (fun hm => hl ((h.map (·.1)).mem_iff.2 hm))).symm
  | some x => exact (lookG_of_mem ht (h.mem_iff.1 (lookG_mem hl))).symm
theorem Same.put {S T : List NP} (h : Same S T) (n : ByteArray) (x : PV) : Same (putG n x S) (putG n x T) := fun s => by rw [lookG_putG, lookG_putG, h]
theorem Same.drop {S T : List NP} (h : Same S T) (n : ByteArray) : Same (dropG n S) (dropG n T) := fun s => by rw [lookG_dropG, lookG_dropG, h]
theorem putG_length {n : ByteArray} {x : PV} (S : List NP) : (putG n x S).length ≤ S.length + 1 := by
  by_cases h : n ∈ S.map (·.1)
  · rw [putG_in h, List.length_map]; omega
  · rw [putG_out h, List.length_append, List.length_singleton]; omega
theorem dropG_length {n : ByteArray} (S : List NP) : (dropG n S).length ≤ S.length := List.length_filter_le _ _
theorem names_putG {n a : ByteArray} {x : PV} {S : List NP} (h : a ∈ (putG n x S).map (·.1)) : a = n ∨ a ∈ S.map (·.1) := by
  by_cases hn : n ∈ S.map (·.1)
  · rw [names_in hn] at h; exact .inr h
  · rw [names_out hn, List.mem_append, List.mem_singleton] at h
    exact h.symm
theorem names_dropG {n a : ByteArray} {S : List NP} (h : a ∈ (dropG n S).map (·.1)) : a ∈ S.map (·.1) := by
  obtain ⟨p, hp, e⟩ := List.mem_map.1 h
  exact List.mem_map.2 ⟨p, (List.mem_filter.1 hp).1, e⟩
theorem takeK_ok {k : Nat} {n : ByteArray} {x y : PV} (hx : x.ok) (h : takeK k n x = some y) : y.ok := by
  unfold takeK at h
  split at h
  · injection h with h; rw [← h]; exact hx
  · split at h
    · injection h with h; rw [← h]; exact trivial
    · cases h
  · split at h
    · injection h with h; rw [← h]; exact trivial
    · cases h
  · split at h
    · injection h with h; rw [← h]; exact hx
    · split at h
      · injection h with h; rw [← h]; show [_].length ≤ 100000; simp
      · cases h
    · cases h
/-- A step: its kind, a name, a value. -/
abbrev StepT := Int × NP
/-- What a step gives, and what is there behind it. -/
def stepS (k : Nat) (S : List NP) (s : StepT) : Bool × List NP :=
  if s.1 = 0 then match takeK k s.2.1 s.2.2 with | some y => (true, putG s.2.1 y S) | none => (false, S)
  else if s.1 = 1 then (true, dropG s.2.1 S)
  else if s.1 = 2 then ((lookG S s.2.1).isSome, S)
  else (true, S)
def runS (k : Nat) : List StepT → List NP → List Bool × List NP
  | [], S => ([], S)
  | s :: r, S => ((stepS k S s).1 :: (runS k r (stepS k S s).2).1, (runS k r (stepS k S s).2).2)
theorem runS_append (k : Nat) : ∀ (a b : List StepT) (S : List NP), runS k (a ++ b) S = ((runS k a S).1 ++ (runS k b (runS k a S).2).1, (runS k b (runS k a S).2).2)
  | [], b, S => rfl
  | s :: a, b, S => by
    rw [List.cons_append, runS, runS_append k a b (stepS k S s).2]
    rfl
theorem runS_snoc (k : Nat) (a : List StepT) (s : StepT) (S : List NP) : runS k (a ++ [s]) S = ((runS k a S).1 ++ [(stepS k (runS k a S).2 s).1], (stepS k (runS k a S).2 s).2) := runS_append k a [s] S
theorem runS_len (k : Nat) : ∀ (a : List StepT) (S : List NP), (runS k a S).1.length = a.length
  | [], S => rfl
  | s :: a, S => by rw [runS, List.length_cons, List.length_cons, runS_len k a]
theorem stepS_same {k : Nat} {S T : List NP} (h : Same S T) (s : StepT) : (stepS k S s).1 = (stepS k T s).1 ∧ Same (stepS k S s).2 (stepS k T s).2 := by
  unfold stepS
  by_cases h0 : s.1 = 0
  · rw [if_pos h0, if_pos h0]
    cases takeK k s.2.1 s.2.2 with
    | some y => exact ⟨rfl, h.put _ _⟩
    | none => exact ⟨rfl, h⟩
  · rw [if_neg h0, if_neg h0]
    by_cases h1 : s.1 = 1
    · rw [if_pos h1, if_pos h1]; exact ⟨rfl, h.drop _⟩
    · rw [if_neg h1, if_neg h1]
      by_cases h2 : s.1 = 2
      · rw [if_pos h2, if_pos h2, h]; exact ⟨rfl, h⟩
      · rw [if_neg h2, if_neg h2]; exact ⟨rfl, h⟩
theorem runS_same {k : Nat} : ∀ (a : List StepT) {S T : List NP}, Same S T → (runS k a S).1 = (runS k a T).1 ∧ Same (runS k a S).2 (runS k a T).2
  | [], S, T, h => ⟨rfl, h⟩
  | s :: a, S, T, h => by
    obtain ⟨h1, h2⟩ := stepS_same (k := k) h s
    obtain ⟨h3, h4⟩ := runS_same (k := k) a h2
    rw [runS, runS, h1, h3]
    exact ⟨rfl, h4⟩
/-- A map as it may be: names different, values that can be held, none of the names of which the laws say nothing. -/
structure Good (k : Nat) (S : List NP) : Prop where
  nd : (S.map (·.1)).Nodup
  ok : ∀ p ∈ S, p.2.ok
  oth : ∀ p ∈ S, p.1 ∉ othL k
theorem Good.nil (k : Nat) : Good k [] := ⟨List.nodup_nil, (fun p hp => by cases hp), (fun p hp => by cases hp)⟩
theorem Good.put {k : Nat} {S : List NP} (h : Good k S) {n : ByteArray} {x : PV} (hx : x.ok) (hn : n ∉ othL k) : Good k (putG n x S) :=
  ⟨nodup_putG h.nd, ok_put h.ok hx, fun p hp => by
    rcases names_putG (List.mem_map_of_mem (f := (·.1)) hp) with e | e
    · rw [e]; exact hn
    · obtain ⟨q, hq, e⟩ := List.mem_map.1 e
      rw [← e]; exact h.oth q hq⟩
theorem Good.drop {k : Nat} {S : List NP} (h : Good k S) (n : ByteArray) : Good k (dropG n S) :=
  ⟨nodup_dropG h.nd, ok_drop h.ok, fun p hp => h.oth p (List.mem_filter.1 hp).1⟩
theorem Good.perm {k : Nat} {S T : List NP} (h : Good k S) (hp : S.Perm T) : Good k T :=
  ⟨(hp.map (·.1)).nodup_iff.1 h.nd, fun p hm => h.ok p (hp.mem_iff.2 hm), fun p hm => h.oth p (hp.mem_iff.2 hm)⟩
/-- A step as it may be. -/
def StOk (k : Nat) (s : StepT) : Prop := s.2.2.ok ∧ s.2.1 ∉ othL k
theorem Good.step {k : Nat} {S : List NP} (h : Good k S) {s : StepT} (hs : StOk k s) : Good k (stepS k S s).2 ∧ (stepS k S s).2.length ≤ S.length + 1 := by
  unfold stepS
  split
  · split
    · rename_i y e
      exact ⟨h.put (takeK_ok hs.1 e) hs.2, putG_length S⟩
    · exact ⟨h, by simp⟩
  · split
    · exact ⟨h.drop _, Nat.le_trans (dropG_length S) (by omega)⟩
    · split
      · exact ⟨h, by simp⟩
      · exact ⟨h, by simp⟩
theorem Good.run {k : Nat} : ∀ (a : List StepT) {S : List NP}, Good k S → (∀ s ∈ a, StOk k s) → Good k (runS k a S).2 ∧ (runS k a S).2.length ≤ S.length + a.length
  | [], S, h, _ => ⟨h, by simp [runS]⟩
  | s :: a, S, h, hs => by
    obtain ⟨h1, h2⟩ := h.step (hs s List.mem_cons_self)
    obtain ⟨h3, h4⟩ := Good.run a h1 (fun t ht => hs t (List.mem_cons_of_mem _ ht))
    rw [runS]
    refine ⟨h3, ?_⟩
    simp only [List.length_cons] at h4 ⊢
    omega
end Go.Proofs.YtapjbdigpleekaaGreat.Mp

/- Rows of fields of one's own; what a plain value comes to as a field; the three closures of impl.known. The conditions are on what lies in memory. -/
set_option linter.unusedVariables false
set_option linter.unusedSimpArgs false
namespace Go.Proofs.YtapjbdigpleekaaGreat.Mp
open Go.RowKit Go.Proofs.YtapjbdigpleekaaGreat.K Go.Proofs.YtapjbdigpleekaaGreat.Cl
/-- A field's name and its plain value. -/
def fld (f : Cl.Fd) : ByteArray × PV := (f.name, pvOf f.k f.t f.b f.z f.l)
/-- A field whose list lies in a row of texts, of one of the four kinds. -/
def FdO (w : World) (f : Cl.Fd) : Prop := w.ownsRow 0 9 1 (.slice f.A f.n f.c) f.n (strs f.l) ∧ 0 ≤ f.k ∧ f.k ≤ 3 ∧ (pvOf f.k f.t f.b f.z f.l).ok ∧ f.n ≤ 100000
theorem FdO.grown {w w' : World} {f : Cl.Fd} {r : Option Nat} (h : FdO w f) (hg : w.grownBy w' r) (hs : Safe w r) : FdO w' f := ⟨own_safe h.1 hg hs, h.2⟩
/-- A row of fields of one's own. -/
def FO (w : World) (B : Nat) (u : Value) (fs : List Cl.Fd) : Prop := w.ownsRow B 45 6 u fs.length (fvs fs) ∧ ∀ f ∈ fs, FdO w f
theorem FO.form {w : World} {B : Nat} {u : Value} {fs : List Cl.Fd} (h : FO w B u fs) : ∃ A c, u = .slice A fs.length c := by
  obtain ⟨A, c, e, _⟩ := own_form h.1
  exact ⟨A, c, e⟩
theorem FO.below {w w' : World} {B : Nat} {u : Value} {fs : List Cl.Fd} (h : FO w B u fs) (hb : Below w.heap.size w w') : FO w' B u fs :=
  ⟨own_below h.1 hb, fun f hf => (h.2 f hf).grown (grown_of_below hb (Nat.le_refl _) none) (safe_none w)⟩
theorem FO.fl {w : World} {B n c : Nat} {A : Option Addr} {fs : List Cl.Fd} (h : FO w B (.slice A n c) fs) (hn : n = fs.length) : FL w A n fs := by
  subst hn
  exact ⟨Reads.of_own h.1, fun f hf => Reads.of_own (h.2 f hf).1⟩
theorem PlV.fd {w : World} {v : Value} {pv : PV} (h : PlV w v pv) (hok : pv.ok) (nm : ByteArray) : ∃ f : Cl.Fd, fld f = (nm, pv) ∧ v = plainV f.k f.t f.b f.z f.A f.n f.c ∧ FdO w f ∧ f.name = nm := by
  cases pv with
  | txt s => exact ⟨⟨nm, 0, s, false, 0, none, 0, 0, []⟩, rfl, h, ⟨World.ownsRow_nil _ _ _ _, by show (0 : Int) ≤ 0; decide, by show (0 : Int) ≤ 3; decide, trivial, Nat.zero_le _⟩, rfl⟩
  | tru b => exact ⟨⟨nm, 1, ByteArray.empty, b, 0, none, 0, 0, []⟩, rfl, h, ⟨World.ownsRow_nil _ _ _ _, by show (0 : Int) ≤ 1; decide, by show (1 : Int) ≤ 3; decide, trivial, Nat.zero_le _⟩, rfl⟩
  | num z => exact ⟨⟨nm, 2, ByteArray.empty, false, z, none, 0, 0, []⟩, rfl, h, ⟨World.ownsRow_nil _ _ _ _, by show (0 : Int) ≤ 2; decide, by show (2 : Int) ≤ 3; decide, hok, Nat.zero_le _⟩, rfl⟩
  | lst l =>
    obtain ⟨A, n, c, e, ho⟩ := h
    exact ⟨⟨nm, 3, ByteArray.empty, false, 0, A, n, c, l⟩, rfl, e, ⟨ho, by show (0 : Int) ≤ 3; decide, by show (3 : Int) ≤ 3; decide, hok, by have h1 := ho.1; rw [strs_len] at h1; have h2 : l.length ≤ 100000 := hok; show n ≤ 100000; omega⟩, rfl⟩
def zFd : Value := .agg #[.string ByteArray.empty, .int .i64 0, .string ByteArray.empty, .bool false, .int .i32 0, .slice none 0 0]
theorem info_fld : (Tryz.prog.info? 45).map (fun i => (i.zero, i.size, i.bytes)) = some (some zFd, 6, 72) := by kernel_rfl
theorem info_fld4 : ∃ i0, Tryz.prog.info? 45 = some i0 ∧ i0.zero = some zFd ∧ i0.size = 6 ∧ i0.bytes = 72 := by
  obtain ⟨i0, hi, hz0, hz1, hz2⟩ := info_parts info_fld
  exact ⟨i0, hi, hz0, hz1, hz2⟩
theorem fcs_one (f : Cl.Fd) : ∀ u ∈ fc f, u.oneCell' = true := by
  intro u hu
  simp only [fc, List.mem_cons, List.not_mem_nil, or_false] at hu
  rcases hu with rfl | rfl | rfl | rfl | rfl | rfl <;> rfl
/-- One field more at the end of a row of one's own. -/
theorem wp_appF {o : Oper} {a : Act} {K : Act → World → Prop} {Q : Exit → Act → World → Prop} {B : Nat} {w : World} {n c : Nat} {A : Option Addr} {fs : List Cl.Fd} {f : Cl.Fd} {i0 : TypeInfo}
    (h : FO w B (.slice A n c) fs) (hf : FdO w f) (hB : B ≤ w.heap.size) (HI : Tryz.prog.info? 45 = some i0 ∧ i0.zero = some zFd ∧ i0.size = 6 ∧ i0.bytes = 72) (hnl : n = fs.length) (hn : n < 1000000) (s1 s2 : Operand)
    (ho : o.op = .call { callee := .builtin .append, args := #[s1, s2], argTypes := #[22, 22] }) (hs : a.eval s1 = .slice A n c) (he : a.eval s2 = .slice (some ⟨w.heap.size, 0, none⟩) 1 1)
    (hq : ∀ A' c' w8, FO w8 B (.slice A' (n + 1) c') (fs ++ [f]) → w.grownBy w8 (Value.slice A n c).ownBlock → K (a.put o.dst (.slice A' (n + 1) c')) w8) :
    o.wp Tryz.prog a (w.alloc (.cells #[.string f.name, .int .i64 f.k, .string f.t, .bool f.b, .int .i32 f.z, .slice f.A f.n f.c] 45)) K Q := by
  subst hnl
  have hsz' : B ≤ (w.alloc (.cells #[.string f.name, .int .i64 f.k, .string f.t, .bool f.b, .int .i32 f.z, .slice f.A f.n f.c] 45)).heap.size := by simp only [World.size_alloc]; omega
  have h1' := World.ownsRow.alloc h.1 (.cells #[.string f.name, .int .i64 f.k, .string f.t, .bool f.b, .int .i32 f.z, .slice f.A f.n f.c] 45)
  refine wp_append_any _ s1 s2 22 ho B 45 i0 zFd 6 72 Tryz.underlying22 HI.1 HI.2.1 HI.2.2.1 HI.2.2.2 rfl (by decide) _ fs.length (fvs fs) hs h1' (some ⟨w.heap.size, 0, none⟩) 1 1 (fc f) he (reads_lit w 6 1 (fc f) #[.string f.name, .int .i64 f.k, .string f.t, .bool f.b, .int .i32 f.z, .slice f.A f.n f.c] rfl rfl _) (fcs_one f) (by unfold maxLen; omega) (by omega) hsz' ?_
  intro v' w8 hown hg _
  obtain ⟨A', c', rfl, _, _⟩ := own_form hown
  have hg8 : w.grownBy w8 (Value.slice A fs.length c).ownBlock := grown_trans (World.grownBy_alloc w _ _) hg
  have hsf : Safe w (Value.slice A fs.length c).ownBlock := by
    intro b cs T z hb hT e
    rcases h.1.2 with ⟨e1, _⟩ | ⟨g', cap, cur, e1, _, hh, _⟩
    · rw [e1] at e; simp [Value.ownBlock] at e
    · rw [e1] at e
      have : b = g' := by simpa [Value.ownBlock] using e
      subst this
      rw [hb] at hh
      injection hh with hh
      injection hh with _ h2
      rcases hT with hT | ⟨hT, _⟩ <;> (rw [hT] at h2; exact absurd h2 (by decide))
  refine hq A' c' w8 ⟨?_, ?_⟩ hg8
  · rw [fvs_app, List.length_append, List.length_singleton]
    simpa [fvs] using hown
  · intro f' hf'
    rcases List.mem_append.1 hf' with h' | h'
    · exact (h.2 f' h').grown hg8 hsf
    · rw [List.mem_singleton.1 h']; exact hf.grown hg8 hsf
theorem own_appF {ops : Array Oper} {rest : List Oper} {o : Oper} {a : Act} {Q : Exit → Act → World → Prop} {B : Nat} {w : World} {n c : Nat} {A : Option Addr} {fs : List Cl.Fd} {f : Cl.Fd} {i0 : TypeInfo}
    (h : FO w B (.slice A n c) fs) (hf : FdO w f) (hB : B ≤ w.heap.size) (HI : Tryz.prog.info? 45 = some i0 ∧ i0.zero = some zFd ∧ i0.size = 6 ∧ i0.bytes = 72) (hnl : n = fs.length) (hn : n < 1000000) (hgd : o.guard = none) (s1 s2 : Operand)
    (ho : o.op = .call { callee := .builtin .append, args := #[s1, s2], argTypes := #[22, 22] }) (hs : a.eval s1 = .slice A n c) (he : a.eval s2 = .slice (some ⟨w.heap.size, 0, none⟩) 1 1)
    (hq : ∀ A' c' w8, FO w8 B (.slice A' (n + 1) c') (fs ++ [f]) → w.grownBy w8 (Value.slice A n c).ownBlock → wpList Tryz.prog ops Q rest (a.put o.dst (.slice A' (n + 1) c')) w8) :
    wpList Tryz.prog ops Q (o :: rest) a (w.alloc (.cells #[.string f.name, .int .i64 f.k, .string f.t, .bool f.b, .int .i32 f.z, .slice f.A f.n f.c] 45)) :=
  wpList_plain hgd fun _ hK => wp_appF h hf hB HI hnl hn s1 s2 ho hs he fun A' c' w8 h1 h2 => hK _ _ (hq A' c' w8 h1 h2)
theorem step_appF {ops : Array Oper} {o : Oper} {a : Act} {K : Act → World → Prop} {E : Prop} {Q : Exit → Act → World → Prop} {B : Nat} {w : World} {n c : Nat} {A : Option Addr} {fs : List Cl.Fd} {f : Cl.Fd} {i0 : TypeInfo}
    (h : FO w B (.slice A n c) fs) (hf : FdO w f) (hB : B ≤ w.heap.size) (HI : Tryz.prog.info? 45 = some i0 ∧ i0.zero = some zFd ∧ i0.size = 6 ∧ i0.bytes = 72) (hnl : n = fs.length) (hn : n < 1000000) (hgd : o.guard = none) (s1 s2 : Operand)
    (ho : o.op = .call { callee := .builtin .append, args := #[s1, s2], argTypes := #[22, 22] }) (hs : a.eval s1 = .slice A n c) (he : a.eval s2 = .slice (some ⟨w.heap.size, 0, none⟩) 1 1)
    (hq : ∀ A' c' w8, FO w8 B (.slice A' (n + 1) c') (fs ++ [f]) → w.grownBy w8 (Value.slice A n c).ownBlock → K (a.put o.dst (.slice A' (n + 1) c')) w8) :
    if Region.wanted o (yielded ops a.tmps) = true then Oper.wp Tryz.prog o a (w.alloc (.cells #[.string f.name, .int .i64 f.k, .string f.t, .bool f.b, .int .i32 f.z, .slice f.A f.n f.c] 45)) K Q else E := by
  have hw : Region.wanted o (yielded ops a.tmps) = true := by simp [Region.wanted, hgd]
  rw [if_pos hw]
  exact wp_appF h hf hB HI hnl hn s1 s2 ho hs he hq
/-- A variable that holds a row of fields of one's own. -/
def FOut (w : World) (o B : Nat) (fs : List Cl.Fd) : Prop := ∃ A n c, Blk w o 22 #[.slice A n c] ∧ FO w B (.slice A n c) fs ∧ n = fs.length ∧ B ≤ o
theorem FOut.below {w w' : World} {o B : Nat} {fs : List Cl.Fd} (h : FOut w o B fs) (hb : Below w.heap.size w w') : FOut w' o B fs := by
  obtain ⟨A, n, c, h1, h2, h3, h4⟩ := h
  exact ⟨A, n, c, h1.below hb h1.lt, h2.below hb, h3, h4⟩
theorem FOut.size {w : World} {o B : Nat} {fs : List Cl.Fd} (h : FOut w o B fs) : B ≤ w.heap.size := by
  obtain ⟨A, n, c, h1, h2, h3, h4⟩ := h
  have := h1.lt
  omega
/-- What is put is put, nothing before B turns. -/
def OutP (w : World) (o B : Nat) (fs : List Cl.Fd) (nm : ByteArray) (pv : PV) (ok : Bool) (e : Ending) (w' : World) : Prop := e = .returned (.tuple #[]) ∧ Below B w w' ∧ ∃ fs', FOut w' o B fs' ∧ fs'.map fld = fs.map fld ++ (if ok then [(nm, pv)] else [])
theorem fo_ne {t : Nat} (ht : 45 ≠ t) {w : World} {B g : Nat} {u : Value} {fs : List Cl.Fd} {cs : Array Value} (h : FO w B u fs) (hb : Blk w g t cs) : some g ≠ u.ownBlock := own_blk_ne h.1 hb ht
theorem FO.set {w : World} {B g t i : Nat} {u v : Value} {fs : List Cl.Fd} {cs : Array Value} (h : FO w B u fs) (hb : Blk w g t cs) (ht : (45 : Nat) ≠ t) (ht2 : t ≠ 9 ∧ t ≠ 4) : FO (w.setCell ⟨g, i, none⟩ v) B u fs :=
  ⟨own_setCell h.1 hb ht i v, fun f hf => (h.2 f hf).grown (setCell_grown w ⟨g, i, none⟩ v) (safe_blk hb ht2)⟩
set_option maxHeartbeats 2000000 in
theorem ktext_yes (w : World) (o B : Nat) (fs : List Cl.Fd) (nm : ByteArray) (s : ByteArray) (h : FOut w o B fs) (hl : fs.length < 1000) :
    Calls Tryz.prog 117 #[.string nm, .string s, .bool true, .pointer (some ⟨o, 0, none⟩)] w (OutP w o B fs nm (PV.txt s) true) := by
  have HP := Lib.hid (plain_calls w.drew 0 _ (PV.txt s) (show PVal w.drew 0 (.iface 9 (.string s)) (.txt s) from rfl) (show (PV.txt s).ok from trivial))
  obtain ⟨i0, hi4⟩ := info_fld4
  have HI := Lib.hid hi4
  have HH := Lib.hid h
  have HL := Lib.hid hl
  obtain ⟨A, n, c, hb, hfo, hn, hBo⟩ := h
  have HD := Lib.hid (show Blk w.drew o 22 #[.slice A n c] ∧ FO w.drew B (.slice A n c) fs from ⟨hb, hfo⟩)
  have HN := Lib.hid (And.intro hn hBo)
  have HSZ := Lib.hid (show B ≤ w.heap.size by have := hb.lt; omega)
  clear hi4 hl hb hfo hn hBo
  go_enter Tryz.func117, Tryz.ntmps117
  go_wp2_with fail
  have k0 : w.drew.cell? ⟨o, 0, none⟩ = some (.slice A n c) := (HD.out.1.cell 0).trans rfl
  go_region_law (first
    | (rw [if_pos (by rfl)]; go_simp; go_at_call 104; (with_reducible refine Calls.mono HP.out ?_); rintro e w2 ⟨v, rfl, hpl, hB2⟩; obtain ⟨f, hff, rfl, hfd, hfn⟩ := hpl.fd (show (PV.txt s).ok from trivial) nm; have HB2 := Lib.hid (And.intro hB2 (And.intro hff hfd)); have HK2 := Lib.hid (HD.out.1.below hB2 HD.out.1.lt); have HF2 := Lib.hid (HD.out.2.below hB2); have k2 : w2.cell? ⟨o, 0, none⟩ = some (.slice A n c) := (HK2.out.cell 0).trans rfl; subst hfn; have k3 : (w2.alloc (.cells #[.string f.name, .int .i64 f.k, .string f.t, .bool f.b, .int .i32 f.z, .slice f.A f.n f.c] 45)).cell? ⟨o, 0, none⟩ = some (.slice A n c) := ((HK2.out.alloc _).cell 0).trans rfl; clear hpl hB2 hff hfd HP)
    | (refine step_appF HF2.out HB2.out.2.2 (Nat.le_trans HSZ.out HB2.out.1.size) HI.out HN.out.1 (by have := HL.out; have := HN.out.1; omega) rfl _ _ rfl (by simp [Act.eval, Act.put]) (by simp [Act.eval, Act.put]) ?_; intro A8 c8 w8 hfo8 hg8; have H8 := Lib.hid (And.intro hfo8 hg8); have HK8 := Lib.hid (HK2.out.grown hg8 (fo_ne (by decide) HF2.out HK2.out)); have k8 : w8.cell? ⟨o, 0, none⟩ = some (.slice A n c) := (HK8.out.cell 0).trans rfl; have f8 := HK8.out.frozen 0; clear hfo8 hg8))
  all_goals
    go_wp2_with fail
    go_end0
    exact ⟨rfl, (((show Below B w w.drew from ⟨rfl, rfl, rfl, Nat.le_refl _, fun _ _ => rfl⟩).trans (HB2.out.1.mono HSZ.out)).grown H8.out.2 (Nat.le_trans HSZ.out HB2.out.1.size) (own_block_ge HF2.out.1)).setCell (p := ⟨o, 0, none⟩) HN.out.2 _, _, ⟨A8, n + 1, c8, HK8.out.set_ 0 _, H8.out.1.set HK8.out (by decide) (by decide), by rw [List.length_append, List.length_singleton, HN.out.1], HN.out.2⟩, by rw [List.map_append, List.map_singleton, HB2.out.2.1]; rfl⟩
theorem ktext_no (w : World) (o B : Nat) (fs : List Cl.Fd) (nm : ByteArray) (v : Value) (pv : PV) (h : FOut w o B fs) :
    Calls Tryz.prog 117 #[.string nm, v, .bool false, .pointer (some ⟨o, 0, none⟩)] w (OutP w o B fs nm pv false) := by
  have HH := Lib.hid h
  clear h
  go_enter Tryz.func117, Tryz.ntmps117
  go_wp2
  go_end0
  exact ⟨rfl, Below.refl _ _, fs, HH.out, by simp⟩
set_option maxHeartbeats 2000000 in
theorem klist_yes (w : World) (o B : Nat) (fs : List Cl.Fd) (nm : ByteArray) (a1 : Addr) (n1 c1 : Nat) (l : List ByteArray) (hl1 : w.ownsRow 0 9 1 (.slice (some a1) n1 c1) n1 (strs l)) (hlok : l.length ≤ 100000) (h : FOut w o B fs) (hl : fs.length < 1000) :
    Calls Tryz.prog 118 #[.string nm, .slice (some a1) n1 c1, .bool true, .pointer (some ⟨o, 0, none⟩)] w (OutP w o B fs nm (PV.lst l) true) := by
  have HP := Lib.hid (plain_calls w.drew 0 _ (PV.lst l) (show PVal w.drew 0 (.iface 23 (.slice (some a1) n1 c1)) (.lst l) from ⟨a1, n1, c1, rfl, hl1⟩) (show (PV.lst l).ok from hlok))
  obtain ⟨i0, hi4⟩ := info_fld4
  have HI := Lib.hid hi4
  have HH := Lib.hid h
  have HL := Lib.hid hl
  obtain ⟨A, n, c, hb, hfo, hn, hBo⟩ := h
  have HD := Lib.hid (show Blk w.drew o 22 #[.slice A n c] ∧ FO w.drew B (.slice A n c) fs from ⟨hb, hfo⟩)
  have HN := Lib.hid (And.intro hn hBo)
  have HSZ := Lib.hid (show B ≤ w.heap.size by have := hb.lt; omega)
  clear hi4 hl hb hfo hn hBo
  go_enter Tryz.func118, Tryz.ntmps118
  go_wp2_with fail
  have k0 : w.drew.cell? ⟨o, 0, none⟩ = some (.slice A n c) := (HD.out.1.cell 0).trans rfl
  go_region_law (first
    | (rw [if_pos (by rfl)]; go_simp; go_at_call 104; (with_reducible refine Calls.mono HP.out ?_); rintro e w2 ⟨v, rfl, hpl, hB2⟩; obtain ⟨f, hff, rfl, hfd, hfn⟩ := hpl.fd (show (PV.lst l).ok from hlok) nm; have HB2 := Lib.hid (And.intro hB2 (And.intro hff hfd)); have HK2 := Lib.hid (HD.out.1.below hB2 HD.out.1.lt); have HF2 := Lib.hid (HD.out.2.below hB2); have k2 : w2.cell? ⟨o, 0, none⟩ = some (.slice A n c) := (HK2.out.cell 0).trans rfl; subst hfn; have k3 : (w2.alloc (.cells #[.string f.name, .int .i64 f.k, .string f.t, .bool f.b, .int .i32 f.z, .slice f.A f.n f.c] 45)).cell? ⟨o, 0, none⟩ = some (.slice A n c) := ((HK2.out.alloc _).cell 0).trans rfl; clear hpl hB2 hff hfd HP)
    | (refine step_appF HF2.out HB2.out.2.2 (Nat.le_trans HSZ.out HB2.out.1.size) HI.out HN.out.1 (by have := HL.out; have := HN.out.1; omega) rfl _ _ rfl (by simp [Act.eval, Act.put]) (by simp [Act.eval, Act.put]) ?_; intro A8 c8 w8 hfo8 hg8; have H8 := Lib.hid (And.intro hfo8 hg8); have HK8 := Lib.hid (HK2.out.grown hg8 (fo_ne (by decide) HF2.out HK2.out)); have k8 : w8.cell? ⟨o, 0, none⟩ = some (.slice A n c) := (HK8.out.cell 0).trans rfl; have f8 := HK8.out.frozen 0; clear hfo8 hg8))
  all_goals
    go_wp2_with fail
    go_end0
    exact ⟨rfl, (((show Below B w w.drew from ⟨rfl, rfl, rfl, Nat.le_refl _, fun _ _ => rfl⟩).trans (HB2.out.1.mono HSZ.out)).grown H8.out.2 (Nat.le_trans HSZ.out HB2.out.1.size) (own_block_ge HF2.out.1)).setCell (p := ⟨o, 0, none⟩) HN.out.2 _, _, ⟨A8, n + 1, c8, HK8.out.set_ 0 _, H8.out.1.set HK8.out (by decide) (by decide), by rw [List.length_append, List.length_singleton, HN.out.1], HN.out.2⟩, by rw [List.map_append, List.map_singleton, HB2.out.2.1]; rfl⟩
theorem klist_no (w : World) (o B : Nat) (fs : List Cl.Fd) (nm : ByteArray) (v : Value) (pv : PV) (h : FOut w o B fs) :
    Calls Tryz.prog 118 #[.string nm, v, .bool false, .pointer (some ⟨o, 0, none⟩)] w (OutP w o B fs nm pv false) := by
  have HH := Lib.hid h
  clear h
  go_enter Tryz.func118, Tryz.ntmps118
  go_wp2
  go_end0
  exact ⟨rfl, Below.refl _ _, fs, HH.out, by simp⟩
set_option maxHeartbeats 2000000 in
theorem ktruth_yes (w : World) (o B : Nat) (fs : List Cl.Fd) (nm : ByteArray) (b : Bool) (h : FOut w o B fs) (hl : fs.length < 1000) :
    Calls Tryz.prog 119 #[.string nm, .bool b, .bool true, .pointer (some ⟨o, 0, none⟩)] w (OutP w o B fs nm (PV.tru b) true) := by
  have HP := Lib.hid (plain_calls w.drew 0 _ (PV.tru b) (show PVal w.drew 0 (.iface 4 (.bool b)) (.tru b) from rfl) (show (PV.tru b).ok from trivial))
  obtain ⟨i0, hi4⟩ := info_fld4
  have HI := Lib.hid hi4
  have HH := Lib.hid h
  have HL := Lib.hid hl
  obtain ⟨A, n, c, hb, hfo, hn, hBo⟩ := h
  have HD := Lib.hid (show Blk w.drew o 22 #[.slice A n c] ∧ FO w.drew B (.slice A n c) fs from ⟨hb, hfo⟩)
  have HN := Lib.hid (And.intro hn hBo)
  have HSZ := Lib.hid (show B ≤ w.heap.size by have := hb.lt; omega)
  clear hi4 hl hb hfo hn hBo
  go_enter Tryz.func119, Tryz.ntmps119
  go_wp2_with fail
  have k0 : w.drew.cell? ⟨o, 0, none⟩ = some (.slice A n c) := (HD.out.1.cell 0).trans rfl
  go_region_law (first
    | (rw [if_pos (by rfl)]; go_simp; go_at_call 104; (with_reducible refine Calls.mono HP.out ?_); rintro e w2 ⟨v, rfl, hpl, hB2⟩; obtain ⟨f, hff, rfl, hfd, hfn⟩ := hpl.fd (show (PV.tru b).ok from trivial) nm; have HB2 := Lib.hid (And.intro hB2 (And.intro hff hfd)); have HK2 := Lib.hid (HD.out.1.below hB2 HD.out.1.lt); have HF2 := Lib.hid (HD.out.2.below hB2); have k2 : w2.cell? ⟨o, 0, none⟩ = some (.slice A n c) := (HK2.out.cell 0).trans rfl; subst hfn; have k3 : (w2.alloc (.cells #[.string f.name, .int .i64 f.k, .string f.t, .bool f.b, .int .i32 f.z, .slice f.A f.n f.c] 45)).cell? ⟨o, 0, none⟩ = some (.slice A n c) := ((HK2.out.alloc _).cell 0).trans rfl; clear hpl hB2 hff hfd HP)
    | (refine step_appF HF2.out HB2.out.2.2 (Nat.le_trans HSZ.out HB2.out.1.size) HI.out HN.out.1 (by have := HL.out; have := HN.out.1; omega) rfl _ _ rfl (by simp [Act.eval, Act.put]) (by simp [Act.eval, Act.put]) ?_; intro A8 c8 w8 hfo8 hg8; have H8 := Lib.hid (And.intro hfo8 hg8); have HK8 := Lib.hid (HK2.out.grown hg8 (fo_ne (by decide) HF2.out HK2.out)); have k8 : w8.cell? ⟨o, 0, none⟩ = some (.slice A n c) := (HK8.out.cell 0).trans rfl; have f8 := HK8.out.frozen 0; clear hfo8 hg8))
  all_goals
    go_wp2_with fail
    go_end0
    exact ⟨rfl, (((show Below B w w.drew from ⟨rfl, rfl, rfl, Nat.le_refl _, fun _ _ => rfl⟩).trans (HB2.out.1.mono HSZ.out)).grown H8.out.2 (Nat.le_trans HSZ.out HB2.out.1.size) (own_block_ge HF2.out.1)).setCell (p := ⟨o, 0, none⟩) HN.out.2 _, _, ⟨A8, n + 1, c8, HK8.out.set_ 0 _, H8.out.1.set HK8.out (by decide) (by decide), by rw [List.length_append, List.length_singleton, HN.out.1], HN.out.2⟩, by rw [List.map_append, List.map_singleton, HB2.out.2.1]; rfl⟩
theorem ktruth_no (w : World) (o B : Nat) (fs : List Cl.Fd) (nm : ByteArray) (v : Value) (pv : PV) (h : FOut w o B fs) :
    Calls Tryz.prog 119 #[.string nm, v, .bool false, .pointer (some ⟨o, 0, none⟩)] w (OutP w o B fs nm pv false) := by
  have HH := Lib.hid h
  clear h
  go_enter Tryz.func119, Tryz.ntmps119
  go_wp2
  go_end0
  exact ⟨rfl, Below.refl _ _, fs, HH.out, by simp⟩
end Go.Proofs.YtapjbdigpleekaaGreat.Mp

/- Steps and truth values as they lie in memory; the conditions are on what lies in memory. -/
set_option linter.unusedVariables false
set_option linter.unusedSimpArgs false
namespace Go.Proofs.YtapjbdigpleekaaGreat.Mp
open Go.RowKit Go.Proofs.YtapjbdigpleekaaGreat.K Go.Proofs.YtapjbdigpleekaaGreat.Cl
/-- A step as it lies in memory. -/
structure Ms where
  kd : Int
  f : Cl.Fd
def mc (s : Ms) : List Value := .int .i64 s.kd :: fc s.f
def mvs : List Ms → List Value
  | [] => []
  | s :: r => mc s ++ mvs r
theorem mvs_len : ∀ ss : List Ms, (mvs ss).length = ss.length * 7
  | [] => rfl
  | s :: r => by rw [mvs, List.length_append, mvs_len r, List.length_cons]; simp [mc, fc]; omega
theorem mvs_at : ∀ (ss : List Ms) (j i : Nat) (h : j < ss.length), i < 7 → (mvs ss)[j * 7 + i]? = (mc ss[j])[i]?
  | s :: r, 0, i, _, hi => by rw [mvs, List.getElem?_append_left (by simp [mc, fc]; omega)]; simp
  | s :: r, j + 1, i, h, hi => by
    rw [mvs, List.getElem?_append_right (by simp [mc, fc]; omega)]
    have := mvs_at r j i (by simpa using h) hi
    rw [show (j + 1) * 7 + i - (mc s).length = j * 7 + i by simp [mc, fc]; omega]
    simpa using this
theorem mvs_app : ∀ a b : List Ms, mvs (a ++ b) = mvs a ++ mvs b
  | [], b => rfl
  | s :: r, b => by rw [List.cons_append, mvs, mvs, mvs_app r b, List.append_assoc]
/-- A slice of steps. -/
def ML (w : World) (A : Option Addr) (n : Nat) (ss : List Ms) : Prop := Reads w 7 A n (mvs ss) ∧ ∀ s ∈ ss, SL w s.f.A s.f.n s.f.l
theorem ML.len {w : World} {A : Option Addr} {n : Nat} {ss : List Ms} (h : ML w A n ss) : n = ss.length := by have := h.1.1; rw [mvs_len] at this; omega
theorem ML.below {w w' : World} {A : Option Addr} {n : Nat} {ss : List Ms} {B : Nat} (h : ML w A n ss) (hb : Below B w w') (hB : w.heap.size ≤ B) : ML w' A n ss :=
  ⟨h.1.below hb hB, fun s hs => (h.2 s hs).below hb hB⟩
theorem ML.at_ {w : World} {A : Option Addr} {n j : Nat} {ss : List Ms} (h : ML w A n ss) (hj : j < ss.length) :
    ∃ ad, A = some ad ∧ w.cell? (ad.add (j * 7)) = some (.int .i64 ss[j].kd) ∧ w.cell? ⟨(ad.add (j * 7)).block, (ad.add (j * 7)).off + 1, none⟩ = some (.string ss[j].f.name) ∧ w.cell? ⟨(ad.add (j * 7)).block, (ad.add (j * 7)).off + 2, none⟩ = some (.int .i64 ss[j].f.k) ∧ w.cell? ⟨(ad.add (j * 7)).block, (ad.add (j * 7)).off + 3, none⟩ = some (.string ss[j].f.t) ∧ w.cell? ⟨(ad.add (j * 7)).block, (ad.add (j * 7)).off + 4, none⟩ = some (.bool ss[j].f.b) ∧ w.cell? ⟨(ad.add (j * 7)).block, (ad.add (j * 7)).off + 5, none⟩ = some (.int .i32 ss[j].f.z) ∧ w.cell? ⟨(ad.add (j * 7)).block, (ad.add (j * 7)).off + 6, none⟩ = some (.slice ss[j].f.A ss[j].f.n ss[j].f.c) ∧ SL w ss[j].f.A ss[j].f.n ss[j].f.l := by
  have hn := h.len
  obtain ⟨ad, rfl, _, hc⟩ := h.1.2 (by omega)
  have g : ∀ i, i < 7 → (mvs ss)[j * 7 + i]? = (mc ss[j])[i]? := fun i hi => mvs_at ss j i hj hi
  exact ⟨ad, rfl, hc (j * 7) _ (by have := g 0 (by decide); simpa [mc, fc] using this), cell_next (hc (j * 7 + 1) _ (by rw [g 1 (by decide)]; rfl)), cell_next (hc (j * 7 + 2) _ (by rw [g 2 (by decide)]; rfl)), cell_next (hc (j * 7 + 3) _ (by rw [g 3 (by decide)]; rfl)), cell_next (hc (j * 7 + 4) _ (by rw [g 4 (by decide)]; rfl)), cell_next (hc (j * 7 + 5) _ (by rw [g 5 (by decide)]; rfl)), cell_next (hc (j * 7 + 6) _ (by rw [g 6 (by decide)]; rfl)), h.2 _ (List.getElem_mem hj)⟩
def stT (s : Ms) : StepT := (s.kd, fld s.f)
/-- A field as it may come in. -/
def FdIn (k : Nat) (f : Cl.Fd) : Prop := 0 ≤ f.k ∧ f.k ≤ 3 ∧ f.n ≤ 100000 ∧ (pvOf f.k f.t f.b f.z f.l).ok ∧ f.name ∉ othL k
/-- A row of truth values of one's own. -/
def BO (w : World) (B : Nat) (u : Value) (bs : List Bool) : Prop := w.ownsRow B 4 1 u bs.length (bs.map Value.bool) ∧ (bs = [] → u = .slice none 0 0)
theorem BO.form {w : World} {B : Nat} {u : Value} {bs : List Bool} (h : BO w B u bs) : ∃ A c, u = .slice A bs.length c := by
  obtain ⟨A, c, e, _⟩ := own_form h.1
  exact ⟨A, c, e⟩
theorem BO.below {w w' : World} {B : Nat} {u : Value} {bs : List Bool} (h : BO w B u bs) (hb : Below w.heap.size w w') : BO w' B u bs := ⟨own_below h.1 hb, h.2⟩
theorem BO.keep {w w' : World} {B g : Nat} {u : Value} {bs : List Bool} (h : BO w B u bs) (hk : Keep w g w') (hg : ∀ cs T z, w.heap[g]? = some (.cells cs T z) → T ≠ 4) : BO w' B u bs := by
  refine ⟨⟨h.1.1, ?_⟩, h.2⟩
  rcases h.1.2 with h0 | ⟨g', cap, cur, e, h2, hh, h3⟩
  · exact .inl h0
  · exact .inr ⟨g', cap, cur, e, h2, hk.cells hh (fun e2 => by subst e2; exact hg _ _ _ hh rfl), h3⟩
theorem info_bool : (Tryz.prog.info? 4).map (fun i => (i.zero, i.size, i.bytes)) = some (some (.bool false), 1, 1) := by kernel_rfl
/-- One truth value more at the end of a row of one's own: of no other block of one truth value does anything turn. -/
theorem own_appB {ops : Array Oper} {rest : List Oper} {o : Oper} {a : Act} {Q : Exit → Act → World → Prop} {B : Nat} {w : World} {n c : Nat} {A : Option Addr} {bs : List Bool} {b : Bool}
    (h : BO w B (.slice A n c) bs) (hB : B ≤ w.heap.size) (hnl : n = bs.length) (hn : n < 1000000) (hgd : o.guard = none) (s1 s2 : Operand)
    (ho : o.op = .call { callee := .builtin .append, args := #[s1, s2], argTypes := #[39, 39] }) (hs : a.eval s1 = .slice A n c) (he : a.eval s2 = .slice (some ⟨w.heap.size, 0, none⟩) 1 1)
    (hq : ∀ A' c' w8 r, BO w8 B (.slice A' (n + 1) c') (bs ++ [b]) → w.grownBy w8 r → Safe w r → (∀ i, r = some i → B ≤ i ∧ ∃ cs z, w.heap[i]? = some (.cells cs 4 z)) → wpList Tryz.prog ops Q rest (a.put o.dst (.slice A' (n + 1) c')) w8) :
    wpList Tryz.prog ops Q (o :: rest) a (w.alloc (.cells #[.bool b] 4)) := by
  obtain ⟨i0, hi, hz0, hz1, hz2⟩ := info_parts info_bool
  subst hnl
  obtain ⟨W, hW⟩ : ∃ W, W = w.alloc (.cells #[.bool b] 4) := ⟨_, rfl⟩
  have hsz' : B ≤ W.heap.size := by rw [hW]; simp only [World.size_alloc]; omega
  have h1' : W.ownsRow B 4 1 (.slice A bs.length c) bs.length (bs.map Value.bool) := by rw [hW]; exact World.ownsRow.alloc h.1 _
  have hrd : Reads W 1 (some ⟨w.heap.size, 0, none⟩) 1 [.bool b] := by rw [hW]; exact reads_lit w 1 1 [.bool b] #[.bool b] rfl rfl _
  rw [← hW]
  obtain ⟨_, ad0, had, _, hcell⟩ : True ∧ ∃ ad, (some ⟨w.heap.size, 0, none⟩ : Option Addr) = some ad ∧ ad.block < W.heap.size ∧ ∀ j u, [Value.bool b][j]? = some u → W.cell? (ad.add j) = some u := ⟨trivial, hrd.2 (by decide)⟩
  injection had with had
  subst had
  obtain ⟨v', w8, hrun, hown, hgb, _, _⟩ := run_append_own_at (P := Tryz.prog) W B 39 o.type 4 i0 (.bool false) 1 1 Tryz.underlying39 hi hz0 hz1 hz2 rfl (by decide) (.slice A bs.length c) bs.length (bs.map Value.bool) h1' ⟨w.heap.size, 0, none⟩ 1 1 [.bool b] rfl hcell (by intro u hu; rw [List.mem_singleton.1 hu]; rfl) (by unfold maxLen; omega) (by omega) hsz'
  have key : ∃ r, w.grownBy w8 r ∧ Safe w r ∧ ∀ i, r = some i → B ≤ i ∧ ∃ cs z, w.heap[i]? = some (.cells cs 4 z) := by
    have hgw : w.grownBy W none := by rw [hW]; exact World.grownBy_alloc w _ _
    rcases h.1.2 with ⟨e, h0⟩ | ⟨g, cap, cur, e, hbg, hh, hnc, hm, hcs, ht⟩
    · rw [e] at hgb
      exact ⟨none, grown_trans hgw hgb, safe_none w, fun i hi => by cases hi⟩
    · injection e with e1 _ e3
      subst e1
      subst e3
      by_cases hroom : bs.length + 1 ≤ c
      · refine ⟨some g, grown_trans (World.grownBy_alloc w _ _ |> fun h => by rw [hW]; exact h) hgb, ?_, fun i hi => by cases hi; exact ⟨hbg, cur, _, hh⟩⟩
        intro i cs T z hi hT e
        injection e with e
        subst e
        rw [hh] at hi
        injection hi with hi
        injection hi with h5 h6
        rcases hT with hT | ⟨_, h7⟩
        · rw [← h6] at hT; exact absurd hT (by decide)
        · rw [← h5, hcs] at h7
          have : bs.length ≠ 0 := fun e0 => by
            have := h.2 (List.eq_nil_of_length_eq_zero e0)
            cases this
          omega
      · have hh' : W.heap[g]? = some (.cells cur 4 (0, 0)) := by
          rw [hW]
          exact (Below.heap_alloc w _ g (Array.getElem?_eq_some_iff.1 hh).1).trans hh
        have hgrow := run_append_grow (P := Tryz.prog) W 39 o.type 4 i0 (.bool false) Tryz.underlying39 hi hz0 ⟨g, 0, none⟩ bs.length c (bs.map Value.bool) (by rw [hz1]; simp) (h1'.cells (g := g) rfl) ⟨w.heap.size, 0, none⟩ 1 1 [.bool b] (by rw [hz1]; rfl) hcell (by omega) (by omega) (growslice_fits (by omega) (by rw [hz2]; omega))
        rw [hrun] at hgrow
        injection hgrow with _ e8
        refine ⟨none, ?_, safe_none w, fun i hi => by cases hi⟩
        rw [e8]
        refine grown_trans hgw ⟨rfl, rfl, rfl, by simp, fun k hk _ => ?_⟩
        exact heap_alloc_old W.drew _ hk
  obtain ⟨r, hr1, hr2, hr3⟩ := key
  obtain ⟨A', c', rfl, _, _⟩ := own_form hown
  refine wpList_plain hgd fun K hK => ?_
  unfold Oper.wp execOp
  simp only [ho, resolve, invoke, builtin, Sem.run_bind, Sem.run_pure, Result.andThen_ok, List.map_toArray, List.map_cons, List.map_nil, hs, he, hrun]
  refine hK _ _ (hq A' c' w8 r ⟨?_, fun e => by simp at e⟩ hr1 hr2 hr3)
  rw [List.length_append, List.length_singleton, List.map_append, List.map_singleton]
  exact hown
/-- Nothing of a map turns where a row of truth values grows. -/
theorem Hd.row {k : Nat} {w w' : World} {B g : Nat} {S : List NP} {r : Option Nat} (h : Hd k w B g S) (hg : w.grownBy w' r) (hs : Safe w r) (hr : ∀ i, r = some i → ∃ cs z, w.heap[i]? = some (.cells cs 4 z)) : Hd k w' B g S := by
  obtain ⟨cs, m, hp⟩ := h
  refine ⟨cs, m, hp.grown hg hs (fun e => ?_) (fun mm hmm e => ?_)⟩
  · obtain ⟨c2, z, h2⟩ := hr g e.symm
    have := hp.blk
    unfold Blk at this
    rw [h2] at this
    injection this with this
    injection this with _ ht
    exact (tyK_ne k).2 ht.symm
  · obtain ⟨c2, z, h2⟩ := hr mm e.symm
    rcases hp.prv with ⟨h0, _⟩ | ⟨m2, E, h0, _, ⟨es, c3, h3, _⟩, _⟩
    · rw [hmm] at h0; cases h0
    · rw [hmm] at h0
      injection h0 with h0
      subst h0
      rw [h2] at h3
      cases h3
end Go.Proofs.YtapjbdigpleekaaGreat.Mp
