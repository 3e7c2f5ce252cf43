import Derived.Test.YtapjbdigpleekaaGreatGB
import Derived.Test.YtapjbdigpleekaaGreatGA
import Derived.Test.YtapjbdigpleekaaGreatGC
import Derived.Maps.OwnOps
import Derived.Lib.LazyBuf
/- Set of a known text, or truth value, to a value of another kind: an error, and nothing turns; the conditions are on what lies in memory. Printed by gen_mperr.py. -/
set_option linter.unusedVariables false
set_option linter.unusedSimpArgs false
namespace Go.Proofs.YtapjbdigpleekaaGreat.Mp
open Go.RowKit Go.Proofs.YtapjbdigpleekaaGreat.K Go.Proofs.YtapjbdigpleekaaGreat.Cl
/-- An error, and the fields are as before. -/
def ErrP (k B g : Nat) (S : List (ByteArray × PV)) (w : World) (e : Ending) (w' : World) : Prop := (∃ T u, e = .returned (.iface T u)) ∧ Hd k w' B g S ∧ Below B w w' ∧ Keep w g w'
/-- A type assertion to a text, to a truth value, fails. -/
def NoTxt (v : Value) : Prop := ∀ W : World, Sem.run Tryz.prog (Instr.typeAssert v 20 9 true) W = .ok (.tuple #[.string ByteArray.empty, .bool false]) W
def NoTru (v : Value) : Prop := ∀ W : World, Sem.run Tryz.prog (Instr.typeAssert v 20 4 true) W = .ok (.tuple #[.bool false, .bool false]) W
def NoLst (v : Value) : Prop := ∀ W : World, Sem.run Tryz.prog (Instr.typeAssert v 20 23 true) W = .ok (.tuple #[.slice none 0 0, .bool false]) W
theorem no_txt {w : World} {B : Nat} {v : Value} {x : PV} (h : PVal w B v x) (hx : ∀ s, x ≠ .txt s) : NoTxt v := by
  intro W
  cases x with
  | txt s => exact absurd rfl (hx s)
  | tru b => rw [show v = _ from h]; exact ta_b1 b W
  | num z => rw [show v = _ from h]; exact ta_f1 _ W
  | lst l => obtain ⟨a, n, c, rfl, _⟩ := h; exact ta_list1 _ n c W
theorem tc_text (s : ByteArray) (W : World) : Sem.run Tryz.prog (Instr.typeAssert (.iface 9 (.string s)) 20 4 true) W = .ok (.tuple #[.bool false, .bool false]) W := by kernel_rfl
theorem tc_text2 (s : ByteArray) (W : World) : Sem.run Tryz.prog (Instr.typeAssert (.iface 9 (.string s)) 20 23 true) W = .ok (.tuple #[.slice none 0 0, .bool false]) W := by kernel_rfl
theorem no_tru {w : World} {B : Nat} {v : Value} {x : PV} (h : PVal w B v x) (hx : ∀ s, x ≠ .tru s) : NoTru v := by
  intro W
  cases x with
  | txt s => rw [show v = _ from h]; exact tc_text s W
  | tru b => exact absurd rfl (hx b)
  | num z => rw [show v = _ from h]; exact tb_f2 _ W
  | lst l => obtain ⟨a, n, c, rfl, _⟩ := h; exact tb_l2 _ n c W
theorem no_lst {w : World} {B : Nat} {v : Value} {x : PV} (h : PVal w B v x) (hx : ∀ s, x ≠ .lst s) : NoLst v := by
  intro W
  cases x with
  | txt s => rw [show v = _ from h]; exact tc_text2 s W
  | tru b => rw [show v = _ from h]; exact ta_b2 b W
  | num z => rw [show v = _ from h]; exact ta_f2 _ W
  | lst l => exact absurd rfl (hx l)
set_option maxRecDepth 100000 in
set_option maxHeartbeats 1000000 in
theorem jws_err_cty {w : World} {B g : Nat} {S : List (ByteArray × PV)} (h : Hd 0 w B g S) {v : Value} (hta : NoTxt v) (hBw : B ≤ w.heap.size) :
    Calls Tryz.prog 184 #[.pointer (some ⟨g, 0, none⟩), .string ⟨#[99, 116, 121]⟩, v] w (ErrP 0 B g S w) := by
  unfold NoTxt at hta
  have HE := Lib.hid (fun W s => errNew_calls W s)
  have HB := Lib.hid (below_alloc' (Below.refl w.heap.size w) (.cells #[.string ByteArray.empty] 9))
  have HH := Lib.hid (And.intro h hBw)
  clear h hBw
  go_enter Tryz.func184, Tryz.ntmps184
  go_wp2_with fail
  refine (HE.out _ _).mono ?_
  rintro e w2 ⟨⟨T, u, rfl⟩, hB2⟩
  have HB2 := Lib.hid (HB.out.trans (hB2.mono HB.out.size))
  clear hB2
  go_wp2
  go_ret
  exact ⟨⟨_, _, rfl⟩, HH.out.1.below HB2.out, HB2.out.mono HH.out.2, keep_below HB2.out⟩
set_option maxRecDepth 100000 in
set_option maxHeartbeats 1000000 in
theorem jws_err_jku {w : World} {B g : Nat} {S : List (ByteArray × PV)} (h : Hd 0 w B g S) {v : Value} (hta : NoTxt v) (hBw : B ≤ w.heap.size) :
    Calls Tryz.prog 184 #[.pointer (some ⟨g, 0, none⟩), .string ⟨#[106, 107, 117]⟩, v] w (ErrP 0 B g S w) := by
  unfold NoTxt at hta
  have HE := Lib.hid (fun W s => errNew_calls W s)
  have HB := Lib.hid (below_alloc' (Below.refl w.heap.size w) (.cells #[.string ByteArray.empty] 9))
  have HH := Lib.hid (And.intro h hBw)
  clear h hBw
  go_enter Tryz.func184, Tryz.ntmps184
  go_wp2_with fail
  refine (HE.out _ _).mono ?_
  rintro e w2 ⟨⟨T, u, rfl⟩, hB2⟩
  have HB2 := Lib.hid (HB.out.trans (hB2.mono HB.out.size))
  clear hB2
  go_wp2
  go_ret
  exact ⟨⟨_, _, rfl⟩, HH.out.1.below HB2.out, HB2.out.mono HH.out.2, keep_below HB2.out⟩
set_option maxRecDepth 100000 in
set_option maxHeartbeats 1000000 in
theorem jws_err_kid {w : World} {B g : Nat} {S : List (ByteArray × PV)} (h : Hd 0 w B g S) {v : Value} (hta : NoTxt v) (hBw : B ≤ w.heap.size) :
    Calls Tryz.prog 184 #[.pointer (some ⟨g, 0, none⟩), .string ⟨#[107, 105, 100]⟩, v] w (ErrP 0 B g S w) := by
  unfold NoTxt at hta
  have HE := Lib.hid (fun W s => errNew_calls W s)
  have HB := Lib.hid (below_alloc' (Below.refl w.heap.size w) (.cells #[.string ByteArray.empty] 9))
  have HH := Lib.hid (And.intro h hBw)
  clear h hBw
  go_enter Tryz.func184, Tryz.ntmps184
  go_wp2_with fail
  refine (HE.out _ _).mono ?_
  rintro e w2 ⟨⟨T, u, rfl⟩, hB2⟩
  have HB2 := Lib.hid (HB.out.trans (hB2.mono HB.out.size))
  clear hB2
  go_wp2
  go_ret
  exact ⟨⟨_, _, rfl⟩, HH.out.1.below HB2.out, HB2.out.mono HH.out.2, keep_below HB2.out⟩
set_option maxRecDepth 100000 in
set_option maxHeartbeats 1000000 in
theorem jws_err_typ {w : World} {B g : Nat} {S : List (ByteArray × PV)} (h : Hd 0 w B g S) {v : Value} (hta : NoTxt v) (hBw : B ≤ w.heap.size) :
    Calls Tryz.prog 184 #[.pointer (some ⟨g, 0, none⟩), .string ⟨#[116, 121, 112]⟩, v] w (ErrP 0 B g S w) := by
  unfold NoTxt at hta
  have HE := Lib.hid (fun W s => errNew_calls W s)
  have HB := Lib.hid (below_alloc' (Below.refl w.heap.size w) (.cells #[.string ByteArray.empty] 9))
  have HH := Lib.hid (And.intro h hBw)
  clear h hBw
  go_enter Tryz.func184, Tryz.ntmps184
  go_wp2_with fail
  refine (HE.out _ _).mono ?_
  rintro e w2 ⟨⟨T, u, rfl⟩, hB2⟩
  have HB2 := Lib.hid (HB.out.trans (hB2.mono HB.out.size))
  clear hB2
  go_wp2
  go_ret
  exact ⟨⟨_, _, rfl⟩, HH.out.1.below HB2.out, HB2.out.mono HH.out.2, keep_below HB2.out⟩
set_option maxRecDepth 100000 in
set_option maxHeartbeats 1000000 in
theorem jws_err_x5t {w : World} {B g : Nat} {S : List (ByteArray × PV)} (h : Hd 0 w B g S) {v : Value} (hta : NoTxt v) (hBw : B ≤ w.heap.size) :
    Calls Tryz.prog 184 #[.pointer (some ⟨g, 0, none⟩), .string ⟨#[120, 53, 116]⟩, v] w (ErrP 0 B g S w) := by
  unfold NoTxt at hta
  have HE := Lib.hid (fun W s => errNew_calls W s)
  have HB := Lib.hid (below_alloc' (Below.refl w.heap.size w) (.cells #[.string ByteArray.empty] 9))
  have HH := Lib.hid (And.intro h hBw)
  clear h hBw
  go_enter Tryz.func184, Tryz.ntmps184
  go_wp2_with fail
  refine (HE.out _ _).mono ?_
  rintro e w2 ⟨⟨T, u, rfl⟩, hB2⟩
  have HB2 := Lib.hid (HB.out.trans (hB2.mono HB.out.size))
  clear hB2
  go_wp2
  go_ret
  exact ⟨⟨_, _, rfl⟩, HH.out.1.below HB2.out, HB2.out.mono HH.out.2, keep_below HB2.out⟩
set_option maxRecDepth 100000 in
set_option maxHeartbeats 1000000 in
theorem jws_err_x5t_S256 {w : World} {B g : Nat} {S : List (ByteArray × PV)} (h : Hd 0 w B g S) {v : Value} (hta : NoTxt v) (hBw : B ≤ w.heap.size) :
    Calls Tryz.prog 184 #[.pointer (some ⟨g, 0, none⟩), .string ⟨#[120, 53, 116, 35, 83, 50, 53, 54]⟩, v] w (ErrP 0 B g S w) := by
  unfold NoTxt at hta
  have HE := Lib.hid (fun W s => errNew_calls W s)
  have HB := Lib.hid (below_alloc' (Below.refl w.heap.size w) (.cells #[.string ByteArray.empty] 9))
  have HH := Lib.hid (And.intro h hBw)
  clear h hBw
  go_enter Tryz.func184, Tryz.ntmps184
  go_wp2_with fail
  refine (HE.out _ _).mono ?_
  rintro e w2 ⟨⟨T, u, rfl⟩, hB2⟩
  have HB2 := Lib.hid (HB.out.trans (hB2.mono HB.out.size))
  clear hB2
  go_wp2
  go_ret
  exact ⟨⟨_, _, rfl⟩, HH.out.1.below HB2.out, HB2.out.mono HH.out.2, keep_below HB2.out⟩
set_option maxRecDepth 100000 in
set_option maxHeartbeats 1000000 in
theorem jws_err_x5u {w : World} {B g : Nat} {S : List (ByteArray × PV)} (h : Hd 0 w B g S) {v : Value} (hta : NoTxt v) (hBw : B ≤ w.heap.size) :
    Calls Tryz.prog 184 #[.pointer (some ⟨g, 0, none⟩), .string ⟨#[120, 53, 117]⟩, v] w (ErrP 0 B g S w) := by
  unfold NoTxt at hta
  have HE := Lib.hid (fun W s => errNew_calls W s)
  have HB := Lib.hid (below_alloc' (Below.refl w.heap.size w) (.cells #[.string ByteArray.empty] 9))
  have HH := Lib.hid (And.intro h hBw)
  clear h hBw
  go_enter Tryz.func184, Tryz.ntmps184
  go_wp2_with fail
  refine (HE.out _ _).mono ?_
  rintro e w2 ⟨⟨T, u, rfl⟩, hB2⟩
  have HB2 := Lib.hid (HB.out.trans (hB2.mono HB.out.size))
  clear hB2
  go_wp2
  go_ret
  exact ⟨⟨_, _, rfl⟩, HH.out.1.below HB2.out, HB2.out.mono HH.out.2, keep_below HB2.out⟩
set_option maxRecDepth 100000 in
set_option maxHeartbeats 1000000 in
theorem jwe_err_cty {w : World} {B g : Nat} {S : List (ByteArray × PV)} (h : Hd 1 w B g S) {v : Value} (hta : NoTxt v) (hBw : B ≤ w.heap.size) :
    Calls Tryz.prog 220 #[.pointer (some ⟨g, 0, none⟩), .string ⟨#[99, 116, 121]⟩, v] w (ErrP 1 B g S w) := by
  unfold NoTxt at hta
  have HE := Lib.hid (fun W s => errNew_calls W s)
  have HB := Lib.hid (below_alloc' (Below.refl w.heap.size w) (.cells #[.string ByteArray.empty] 9))
  have HH := Lib.hid (And.intro h hBw)
  clear h hBw
  go_enter Tryz.func220, Tryz.ntmps220
  go_wp2_with fail
  refine (HE.out _ _).mono ?_
  rintro e w2 ⟨⟨T, u, rfl⟩, hB2⟩
  have HB2 := Lib.hid (HB.out.trans (hB2.mono HB.out.size))
  clear hB2
  go_wp2
  go_ret
  exact ⟨⟨_, _, rfl⟩, HH.out.1.below HB2.out, HB2.out.mono HH.out.2, keep_below HB2.out⟩
set_option maxRecDepth 100000 in
set_option maxHeartbeats 1000000 in
theorem jwe_err_jku {w : World} {B g : Nat} {S : List (ByteArray × PV)} (h : Hd 1 w B g S) {v : Value} (hta : NoTxt v) (hBw : B ≤ w.heap.size) :
    Calls Tryz.prog 220 #[.pointer (some ⟨g, 0, none⟩), .string ⟨#[106, 107, 117]⟩, v] w (ErrP 1 B g S w) := by
  unfold NoTxt at hta
  have HE := Lib.hid (fun W s => errNew_calls W s)
  have HB := Lib.hid (below_alloc' (Below.refl w.heap.size w) (.cells #[.string ByteArray.empty] 9))
  have HH := Lib.hid (And.intro h hBw)
  clear h hBw
  go_enter Tryz.func220, Tryz.ntmps220
  go_wp2_with fail
  refine (HE.out _ _).mono ?_
  rintro e w2 ⟨⟨T, u, rfl⟩, hB2⟩
  have HB2 := Lib.hid (HB.out.trans (hB2.mono HB.out.size))
  clear hB2
  go_wp2
  go_ret
  exact ⟨⟨_, _, rfl⟩, HH.out.1.below HB2.out, HB2.out.mono HH.out.2, keep_below HB2.out⟩
set_option maxRecDepth 100000 in
set_option maxHeartbeats 1000000 in
theorem jwe_err_kid {w : World} {B g : Nat} {S : List (ByteArray × PV)} (h : Hd 1 w B g S) {v : Value} (hta : NoTxt v) (hBw : B ≤ w.heap.size) :
    Calls Tryz.prog 220 #[.pointer (some ⟨g, 0, none⟩), .string ⟨#[107, 105, 100]⟩, v] w (ErrP 1 B g S w) := by
  unfold NoTxt at hta
  have HE := Lib.hid (fun W s => errNew_calls W s)
  have HB := Lib.hid (below_alloc' (Below.refl w.heap.size w) (.cells #[.string ByteArray.empty] 9))
  have HH := Lib.hid (And.intro h hBw)
  clear h hBw
  go_enter Tryz.func220, Tryz.ntmps220
  go_wp2_with fail
  refine (HE.out _ _).mono ?_
  rintro e w2 ⟨⟨T, u, rfl⟩, hB2⟩
  have HB2 := Lib.hid (HB.out.trans (hB2.mono HB.out.size))
  clear hB2
  go_wp2
  go_ret
  exact ⟨⟨_, _, rfl⟩, HH.out.1.below HB2.out, HB2.out.mono HH.out.2, keep_below HB2.out⟩
set_option maxRecDepth 100000 in
set_option maxHeartbeats 1000000 in
theorem jwe_err_typ {w : World} {B g : Nat} {S : List (ByteArray × PV)} (h : Hd 1 w B g S) {v : Value} (hta : NoTxt v) (hBw : B ≤ w.heap.size) :
    Calls Tryz.prog 220 #[.pointer (some ⟨g, 0, none⟩), .string ⟨#[116, 121, 112]⟩, v] w (ErrP 1 B g S w) := by
  unfold NoTxt at hta
  have HE := Lib.hid (fun W s => errNew_calls W s)
  have HB := Lib.hid (below_alloc' (Below.refl w.heap.size w) (.cells #[.string ByteArray.empty] 9))
  have HH := Lib.hid (And.intro h hBw)
  clear h hBw
  go_enter Tryz.func220, Tryz.ntmps220
  go_wp2_with fail
  refine (HE.out _ _).mono ?_
  rintro e w2 ⟨⟨T, u, rfl⟩, hB2⟩
  have HB2 := Lib.hid (HB.out.trans (hB2.mono HB.out.size))
  clear hB2
  go_wp2
  go_ret
  exact ⟨⟨_, _, rfl⟩, HH.out.1.below HB2.out, HB2.out.mono HH.out.2, keep_below HB2.out⟩
set_option maxRecDepth 100000 in
set_option maxHeartbeats 1000000 in
theorem jwe_err_x5t {w : World} {B g : Nat} {S : List (ByteArray × PV)} (h : Hd 1 w B g S) {v : Value} (hta : NoTxt v) (hBw : B ≤ w.heap.size) :
    Calls Tryz.prog 220 #[.pointer (some ⟨g, 0, none⟩), .string ⟨#[120, 53, 116]⟩, v] w (ErrP 1 B g S w) := by
  unfold NoTxt at hta
  have HE := Lib.hid (fun W s => errNew_calls W s)
  have HB := Lib.hid (below_alloc' (Below.refl w.heap.size w) (.cells #[.string ByteArray.empty] 9))
  have HH := Lib.hid (And.intro h hBw)
  clear h hBw
  go_enter Tryz.func220, Tryz.ntmps220
  go_wp2_with fail
  refine (HE.out _ _).mono ?_
  rintro e w2 ⟨⟨T, u, rfl⟩, hB2⟩
  have HB2 := Lib.hid (HB.out.trans (hB2.mono HB.out.size))
  clear hB2
  go_wp2
  go_ret
  exact ⟨⟨_, _, rfl⟩, HH.out.1.below HB2.out, HB2.out.mono HH.out.2, keep_below HB2.out⟩
set_option maxRecDepth 100000 in
set_option maxHeartbeats 1000000 in
theorem jwe_err_x5t_S256 {w : World} {B g : Nat} {S : List (ByteArray × PV)} (h : Hd 1 w B g S) {v : Value} (hta : NoTxt v) (hBw : B ≤ w.heap.size) :
    Calls Tryz.prog 220 #[.pointer (some ⟨g, 0, none⟩), .string ⟨#[120, 53, 116, 35, 83, 50, 53, 54]⟩, v] w (ErrP 1 B g S w) := by
  unfold NoTxt at hta
  have HE := Lib.hid (fun W s => errNew_calls W s)
  have HB := Lib.hid (below_alloc' (Below.refl w.heap.size w) (.cells #[.string ByteArray.empty] 9))
  have HH := Lib.hid (And.intro h hBw)
  clear h hBw
  go_enter Tryz.func220, Tryz.ntmps220
  go_wp2_with fail
  refine (HE.out _ _).mono ?_
  rintro e w2 ⟨⟨T, u, rfl⟩, hB2⟩
  have HB2 := Lib.hid (HB.out.trans (hB2.mono HB.out.size))
  clear hB2
  go_wp2
  go_ret
  exact ⟨⟨_, _, rfl⟩, HH.out.1.below HB2.out, HB2.out.mono HH.out.2, keep_below HB2.out⟩
set_option maxRecDepth 100000 in
set_option maxHeartbeats 1000000 in
theorem jwe_err_x5u {w : World} {B g : Nat} {S : List (ByteArray × PV)} (h : Hd 1 w B g S) {v : Value} (hta : NoTxt v) (hBw : B ≤ w.heap.size) :
    Calls Tryz.prog 220 #[.pointer (some ⟨g, 0, none⟩), .string ⟨#[120, 53, 117]⟩, v] w (ErrP 1 B g S w) := by
  unfold NoTxt at hta
  have HE := Lib.hid (fun W s => errNew_calls W s)
  have HB := Lib.hid (below_alloc' (Below.refl w.heap.size w) (.cells #[.string ByteArray.empty] 9))
  have HH := Lib.hid (And.intro h hBw)
  clear h hBw
  go_enter Tryz.func220, Tryz.ntmps220
  go_wp2_with fail
  refine (HE.out _ _).mono ?_
  rintro e w2 ⟨⟨T, u, rfl⟩, hB2⟩
  have HB2 := Lib.hid (HB.out.trans (hB2.mono HB.out.size))
  clear hB2
  go_wp2
  go_ret
  exact ⟨⟨_, _, rfl⟩, HH.out.1.below HB2.out, HB2.out.mono HH.out.2, keep_below HB2.out⟩
set_option maxRecDepth 100000 in
set_option maxHeartbeats 1000000 in
theorem jwt_err_iss {w : World} {B g : Nat} {S : List (ByteArray × PV)} (h : Hd 2 w B g S) {v : Value} (hta : NoTxt v) (hBw : B ≤ w.heap.size) :
    Calls Tryz.prog 271 #[.pointer (some ⟨g, 0, none⟩), .string ⟨#[105, 115, 115]⟩, v] w (ErrP 2 B g S w) := by
  unfold NoTxt at hta
  have HE := Lib.hid (fun W s => errNew_calls W s)
  have HB := Lib.hid (below_alloc' (Below.refl w.heap.size w) (.cells #[.string ByteArray.empty] 9))
  have HH := Lib.hid (And.intro h hBw)
  clear h hBw
  go_enter Tryz.func271, Tryz.ntmps271
  go_wp2_with fail
  refine (HE.out _ _).mono ?_
  rintro e w2 ⟨⟨T, u, rfl⟩, hB2⟩
  have HB2 := Lib.hid (HB.out.trans (hB2.mono HB.out.size))
  clear hB2
  go_wp2
  go_ret
  exact ⟨⟨_, _, rfl⟩, HH.out.1.below HB2.out, HB2.out.mono HH.out.2, keep_below HB2.out⟩
set_option maxRecDepth 100000 in
set_option maxHeartbeats 1000000 in
theorem jwt_err_jti {w : World} {B g : Nat} {S : List (ByteArray × PV)} (h : Hd 2 w B g S) {v : Value} (hta : NoTxt v) (hBw : B ≤ w.heap.size) :
    Calls Tryz.prog 271 #[.pointer (some ⟨g, 0, none⟩), .string ⟨#[106, 116, 105]⟩, v] w (ErrP 2 B g S w) := by
  unfold NoTxt at hta
  have HE := Lib.hid (fun W s => errNew_calls W s)
  have HB := Lib.hid (below_alloc' (Below.refl w.heap.size w) (.cells #[.string ByteArray.empty] 9))
  have HH := Lib.hid (And.intro h hBw)
  clear h hBw
  go_enter Tryz.func271, Tryz.ntmps271
  go_wp2_with fail
  refine (HE.out _ _).mono ?_
  rintro e w2 ⟨⟨T, u, rfl⟩, hB2⟩
  have HB2 := Lib.hid (HB.out.trans (hB2.mono HB.out.size))
  clear hB2
  go_wp2
  go_ret
  exact ⟨⟨_, _, rfl⟩, HH.out.1.below HB2.out, HB2.out.mono HH.out.2, keep_below HB2.out⟩
set_option maxRecDepth 100000 in
set_option maxHeartbeats 1000000 in
theorem jwt_err_sub {w : World} {B g : Nat} {S : List (ByteArray × PV)} (h : Hd 2 w B g S) {v : Value} (hta : NoTxt v) (hBw : B ≤ w.heap.size) :
    Calls Tryz.prog 271 #[.pointer (some ⟨g, 0, none⟩), .string ⟨#[115, 117, 98]⟩, v] w (ErrP 2 B g S w) := by
  unfold NoTxt at hta
  have HE := Lib.hid (fun W s => errNew_calls W s)
  have HB := Lib.hid (below_alloc' (Below.refl w.heap.size w) (.cells #[.string ByteArray.empty] 9))
  have HH := Lib.hid (And.intro h hBw)
  clear h hBw
  go_enter Tryz.func271, Tryz.ntmps271
  go_wp2_with fail
  refine (HE.out _ _).mono ?_
  rintro e w2 ⟨⟨T, u, rfl⟩, hB2⟩
  have HB2 := Lib.hid (HB.out.trans (hB2.mono HB.out.size))
  clear hB2
  go_wp2
  go_ret
  exact ⟨⟨_, _, rfl⟩, HH.out.1.below HB2.out, HB2.out.mono HH.out.2, keep_below HB2.out⟩
set_option maxRecDepth 100000 in
set_option maxHeartbeats 1000000 in
theorem oid_err_email {w : World} {B g : Nat} {S : List (ByteArray × PV)} (h : Hd 3 w B g S) {v : Value} (hta : NoTxt v) (hBw : B ≤ w.heap.size) :
    Calls Tryz.prog 255 #[.pointer (some ⟨g, 0, none⟩), .string ⟨#[101, 109, 97, 105, 108]⟩, v] w (ErrP 3 B g S w) := by
  unfold NoTxt at hta
  have HE := Lib.hid (fun W s => errNew_calls W s)
  have HB := Lib.hid (below_alloc' (Below.refl w.heap.size w) (.cells #[.string ByteArray.empty] 9))
  have HH := Lib.hid (And.intro h hBw)
  clear h hBw
  go_enter Tryz.func255, Tryz.ntmps255
  go_wp2_with fail
  refine (HE.out _ _).mono ?_
  rintro e w2 ⟨⟨T, u, rfl⟩, hB2⟩
  have HB2 := Lib.hid (HB.out.trans (hB2.mono HB.out.size))
  clear hB2
  go_wp2
  go_ret
  exact ⟨⟨_, _, rfl⟩, HH.out.1.below HB2.out, HB2.out.mono HH.out.2, keep_below HB2.out⟩
set_option maxRecDepth 100000 in
set_option maxHeartbeats 1000000 in
theorem oid_err_family_name {w : World} {B g : Nat} {S : List (ByteArray × PV)} (h : Hd 3 w B g S) {v : Value} (hta : NoTxt v) (hBw : B ≤ w.heap.size) :
    Calls Tryz.prog 255 #[.pointer (some ⟨g, 0, none⟩), .string ⟨#[102, 97, 109, 105, 108, 121, 95, 110, 97, 109, 101]⟩, v] w (ErrP 3 B g S w) := by
  unfold NoTxt at hta
  have HE := Lib.hid (fun W s => errNew_calls W s)
  have HB := Lib.hid (below_alloc' (Below.refl w.heap.size w) (.cells #[.string ByteArray.empty] 9))
  have HH := Lib.hid (And.intro h hBw)
  clear h hBw
  go_enter Tryz.func255, Tryz.ntmps255
  go_wp2_with fail
  refine (HE.out _ _).mono ?_
  rintro e w2 ⟨⟨T, u, rfl⟩, hB2⟩
  have HB2 := Lib.hid (HB.out.trans (hB2.mono HB.out.size))
  clear hB2
  go_wp2
  go_ret
  exact ⟨⟨_, _, rfl⟩, HH.out.1.below HB2.out, HB2.out.mono HH.out.2, keep_below HB2.out⟩
set_option maxRecDepth 100000 in
set_option maxHeartbeats 1000000 in
theorem oid_err_gender {w : World} {B g : Nat} {S : List (ByteArray × PV)} (h : Hd 3 w B g S) {v : Value} (hta : NoTxt v) (hBw : B ≤ w.heap.size) :
    Calls Tryz.prog 255 #[.pointer (some ⟨g, 0, none⟩), .string ⟨#[103, 101, 110, 100, 101, 114]⟩, v] w (ErrP 3 B g S w) := by
  unfold NoTxt at hta
  have HE := Lib.hid (fun W s => errNew_calls W s)
  have HB := Lib.hid (below_alloc' (Below.refl w.heap.size w) (.cells #[.string ByteArray.empty] 9))
  have HH := Lib.hid (And.intro h hBw)
  clear h hBw
  go_enter Tryz.func255, Tryz.ntmps255
  go_wp2_with fail
  refine (HE.out _ _).mono ?_
  rintro e w2 ⟨⟨T, u, rfl⟩, hB2⟩
  have HB2 := Lib.hid (HB.out.trans (hB2.mono HB.out.size))
  clear hB2
  go_wp2
  go_ret
  exact ⟨⟨_, _, rfl⟩, HH.out.1.below HB2.out, HB2.out.mono HH.out.2, keep_below HB2.out⟩
set_option maxRecDepth 100000 in
set_option maxHeartbeats 1000000 in
theorem oid_err_given_name {w : World} {B g : Nat} {S : List (ByteArray × PV)} (h : Hd 3 w B g S) {v : Value} (hta : NoTxt v) (hBw : B ≤ w.heap.size) :
    Calls Tryz.prog 255 #[.pointer (some ⟨g, 0, none⟩), .string ⟨#[103, 105, 118, 101, 110, 95, 110, 97, 109, 101]⟩, v] w (ErrP 3 B g S w) := by
  unfold NoTxt at hta
  have HE := Lib.hid (fun W s => errNew_calls W s)
  have HB := Lib.hid (below_alloc' (Below.refl w.heap.size w) (.cells #[.string ByteArray.empty] 9))
  have HH := Lib.hid (And.intro h hBw)
  clear h hBw
  go_enter Tryz.func255, Tryz.ntmps255
  go_wp2_with fail
  refine (HE.out _ _).mono ?_
  rintro e w2 ⟨⟨T, u, rfl⟩, hB2⟩
  have HB2 := Lib.hid (HB.out.trans (hB2.mono HB.out.size))
  clear hB2
  go_wp2
  go_ret
  exact ⟨⟨_, _, rfl⟩, HH.out.1.below HB2.out, HB2.out.mono HH.out.2, keep_below HB2.out⟩
set_option maxRecDepth 100000 in
set_option maxHeartbeats 1000000 in
theorem oid_err_iss {w : World} {B g : Nat} {S : List (ByteArray × PV)} (h : Hd 3 w B g S) {v : Value} (hta : NoTxt v) (hBw : B ≤ w.heap.size) :
    Calls Tryz.prog 255 #[.pointer (some ⟨g, 0, none⟩), .string ⟨#[105, 115, 115]⟩, v] w (ErrP 3 B g S w) := by
  unfold NoTxt at hta
  have HE := Lib.hid (fun W s => errNew_calls W s)
  have HB := Lib.hid (below_alloc' (Below.refl w.heap.size w) (.cells #[.string ByteArray.empty] 9))
  have HH := Lib.hid (And.intro h hBw)
  clear h hBw
  go_enter Tryz.func255, Tryz.ntmps255
  go_wp2_with fail
  refine (HE.out _ _).mono ?_
  rintro e w2 ⟨⟨T, u, rfl⟩, hB2⟩
  have HB2 := Lib.hid (HB.out.trans (hB2.mono HB.out.size))
  clear hB2
  go_wp2
  go_ret
  exact ⟨⟨_, _, rfl⟩, HH.out.1.below HB2.out, HB2.out.mono HH.out.2, keep_below HB2.out⟩
set_option maxRecDepth 100000 in
set_option maxHeartbeats 1000000 in
theorem oid_err_jti {w : World} {B g : Nat} {S : List (ByteArray × PV)} (h : Hd 3 w B g S) {v : Value} (hta : NoTxt v) (hBw : B ≤ w.heap.size) :
    Calls Tryz.prog 255 #[.pointer (some ⟨g, 0, none⟩), .string ⟨#[106, 116, 105]⟩, v] w (ErrP 3 B g S w) := by
  unfold NoTxt at hta
  have HE := Lib.hid (fun W s => errNew_calls W s)
  have HB := Lib.hid (below_alloc' (Below.refl w.heap.size w) (.cells #[.string ByteArray.empty] 9))
  have HH := Lib.hid (And.intro h hBw)
  clear h hBw
  go_enter Tryz.func255, Tryz.ntmps255
  go_wp2_with fail
  refine (HE.out _ _).mono ?_
  rintro e w2 ⟨⟨T, u, rfl⟩, hB2⟩
  have HB2 := Lib.hid (HB.out.trans (hB2.mono HB.out.size))
  clear hB2
  go_wp2
  go_ret
  exact ⟨⟨_, _, rfl⟩, HH.out.1.below HB2.out, HB2.out.mono HH.out.2, keep_below HB2.out⟩
set_option maxRecDepth 100000 in
set_option maxHeartbeats 1000000 in
theorem oid_err_locale {w : World} {B g : Nat} {S : List (ByteArray × PV)} (h : Hd 3 w B g S) {v : Value} (hta : NoTxt v) (hBw : B ≤ w.heap.size) :
    Calls Tryz.prog 255 #[.pointer (some ⟨g, 0, none⟩), .string ⟨#[108, 111, 99, 97, 108, 101]⟩, v] w (ErrP 3 B g S w) := by
  unfold NoTxt at hta
  have HE := Lib.hid (fun W s => errNew_calls W s)
  have HB := Lib.hid (below_alloc' (Below.refl w.heap.size w) (.cells #[.string ByteArray.empty] 9))
  have HH := Lib.hid (And.intro h hBw)
  clear h hBw
  go_enter Tryz.func255, Tryz.ntmps255
  go_wp2_with fail
  refine (HE.out _ _).mono ?_
  rintro e w2 ⟨⟨T, u, rfl⟩, hB2⟩
  have HB2 := Lib.hid (HB.out.trans (hB2.mono HB.out.size))
  clear hB2
  go_wp2
  go_ret
  exact ⟨⟨_, _, rfl⟩, HH.out.1.below HB2.out, HB2.out.mono HH.out.2, keep_below HB2.out⟩
set_option maxRecDepth 100000 in
set_option maxHeartbeats 1000000 in
theorem oid_err_middle_name {w : World} {B g : Nat} {S : List (ByteArray × PV)} (h : Hd 3 w B g S) {v : Value} (hta : NoTxt v) (hBw : B ≤ w.heap.size) :
    Calls Tryz.prog 255 #[.pointer (some ⟨g, 0, none⟩), .string ⟨#[109, 105, 100, 100, 108, 101, 95, 110, 97, 109, 101]⟩, v] w (ErrP 3 B g S w) := by
  unfold NoTxt at hta
  have HE := Lib.hid (fun W s => errNew_calls W s)
  have HB := Lib.hid (below_alloc' (Below.refl w.heap.size w) (.cells #[.string ByteArray.empty] 9))
  have HH := Lib.hid (And.intro h hBw)
  clear h hBw
  go_enter Tryz.func255, Tryz.ntmps255
  go_wp2_with fail
  refine (HE.out _ _).mono ?_
  rintro e w2 ⟨⟨T, u, rfl⟩, hB2⟩
  have HB2 := Lib.hid (HB.out.trans (hB2.mono HB.out.size))
  clear hB2
  go_wp2
  go_ret
  exact ⟨⟨_, _, rfl⟩, HH.out.1.below HB2.out, HB2.out.mono HH.out.2, keep_below HB2.out⟩
set_option maxRecDepth 100000 in
set_option maxHeartbeats 1000000 in
theorem oid_err_name {w : World} {B g : Nat} {S : List (ByteArray × PV)} (h : Hd 3 w B g S) {v : Value} (hta : NoTxt v) (hBw : B ≤ w.heap.size) :
    Calls Tryz.prog 255 #[.pointer (some ⟨g, 0, none⟩), .string ⟨#[110, 97, 109, 101]⟩, v] w (ErrP 3 B g S w) := by
  unfold NoTxt at hta
  have HE := Lib.hid (fun W s => errNew_calls W s)
  have HB := Lib.hid (below_alloc' (Below.refl w.heap.size w) (.cells #[.string ByteArray.empty] 9))
  have HH := Lib.hid (And.intro h hBw)
  clear h hBw
  go_enter Tryz.func255, Tryz.ntmps255
  go_wp2_with fail
  refine (HE.out _ _).mono ?_
  rintro e w2 ⟨⟨T, u, rfl⟩, hB2⟩
  have HB2 := Lib.hid (HB.out.trans (hB2.mono HB.out.size))
  clear hB2
  go_wp2
  go_ret
  exact ⟨⟨_, _, rfl⟩, HH.out.1.below HB2.out, HB2.out.mono HH.out.2, keep_below HB2.out⟩
set_option maxRecDepth 100000 in
set_option maxHeartbeats 1000000 in
theorem oid_err_nickname {w : World} {B g : Nat} {S : List (ByteArray × PV)} (h : Hd 3 w B g S) {v : Value} (hta : NoTxt v) (hBw : B ≤ w.heap.size) :
    Calls Tryz.prog 255 #[.pointer (some ⟨g, 0, none⟩), .string ⟨#[110, 105, 99, 107, 110, 97, 109, 101]⟩, v] w (ErrP 3 B g S w) := by
  unfold NoTxt at hta
  have HE := Lib.hid (fun W s => errNew_calls W s)
  have HB := Lib.hid (below_alloc' (Below.refl w.heap.size w) (.cells #[.string ByteArray.empty] 9))
  have HH := Lib.hid (And.intro h hBw)
  clear h hBw
  go_enter Tryz.func255, Tryz.ntmps255
  go_wp2_with fail
  refine (HE.out _ _).mono ?_
  rintro e w2 ⟨⟨T, u, rfl⟩, hB2⟩
  have HB2 := Lib.hid (HB.out.trans (hB2.mono HB.out.size))
  clear hB2
  go_wp2
  go_ret
  exact ⟨⟨_, _, rfl⟩, HH.out.1.below HB2.out, HB2.out.mono HH.out.2, keep_below HB2.out⟩
set_option maxRecDepth 100000 in
set_option maxHeartbeats 1000000 in
theorem oid_err_phone_number {w : World} {B g : Nat} {S : List (ByteArray × PV)} (h : Hd 3 w B g S) {v : Value} (hta : NoTxt v) (hBw : B ≤ w.heap.size) :
    Calls Tryz.prog 255 #[.pointer (some ⟨g, 0, none⟩), .string ⟨#[112, 104, 111, 110, 101, 95, 110, 117, 109, 98, 101, 114]⟩, v] w (ErrP 3 B g S w) := by
  unfold NoTxt at hta
  have HE := Lib.hid (fun W s => errNew_calls W s)
  have HB := Lib.hid (below_alloc' (Below.refl w.heap.size w) (.cells #[.string ByteArray.empty] 9))
  have HH := Lib.hid (And.intro h hBw)
  clear h hBw
  go_enter Tryz.func255, Tryz.ntmps255
  go_wp2_with fail
  refine (HE.out _ _).mono ?_
  rintro e w2 ⟨⟨T, u, rfl⟩, hB2⟩
  have HB2 := Lib.hid (HB.out.trans (hB2.mono HB.out.size))
  clear hB2
  go_wp2
  go_ret
  exact ⟨⟨_, _, rfl⟩, HH.out.1.below HB2.out, HB2.out.mono HH.out.2, keep_below HB2.out⟩
set_option maxRecDepth 100000 in
set_option maxHeartbeats 1000000 in
theorem oid_err_picture {w : World} {B g : Nat} {S : List (ByteArray × PV)} (h : Hd 3 w B g S) {v : Value} (hta : NoTxt v) (hBw : B ≤ w.heap.size) :
    Calls Tryz.prog 255 #[.pointer (some ⟨g, 0, none⟩), .string ⟨#[112, 105, 99, 116, 117, 114, 101]⟩, v] w (ErrP 3 B g S w) := by
  unfold NoTxt at hta
  have HE := Lib.hid (fun W s => errNew_calls W s)
  have HB := Lib.hid (below_alloc' (Below.refl w.heap.size w) (.cells #[.string ByteArray.empty] 9))
  have HH := Lib.hid (And.intro h hBw)
  clear h hBw
  go_enter Tryz.func255, Tryz.ntmps255
  go_wp2_with fail
  refine (HE.out _ _).mono ?_
  rintro e w2 ⟨⟨T, u, rfl⟩, hB2⟩
  have HB2 := Lib.hid (HB.out.trans (hB2.mono HB.out.size))
  clear hB2
  go_wp2
  go_ret
  exact ⟨⟨_, _, rfl⟩, HH.out.1.below HB2.out, HB2.out.mono HH.out.2, keep_below HB2.out⟩
set_option maxRecDepth 100000 in
set_option maxHeartbeats 1000000 in
theorem oid_err_preferred_username {w : World} {B g : Nat} {S : List (ByteArray × PV)} (h : Hd 3 w B g S) {v : Value} (hta : NoTxt v) (hBw : B ≤ w.heap.size) :
    Calls Tryz.prog 255 #[.pointer (some ⟨g, 0, none⟩), .string ⟨#[112, 114, 101, 102, 101, 114, 114, 101, 100, 95, 117, 115, 101, 114, 110, 97, 109, 101]⟩, v] w (ErrP 3 B g S w) := by
  unfold NoTxt at hta
  have HE := Lib.hid (fun W s => errNew_calls W s)
  have HB := Lib.hid (below_alloc' (Below.refl w.heap.size w) (.cells #[.string ByteArray.empty] 9))
  have HH := Lib.hid (And.intro h hBw)
  clear h hBw
  go_enter Tryz.func255, Tryz.ntmps255
  go_wp2_with fail
  refine (HE.out _ _).mono ?_
  rintro e w2 ⟨⟨T, u, rfl⟩, hB2⟩
  have HB2 := Lib.hid (HB.out.trans (hB2.mono HB.out.size))
  clear hB2
  go_wp2
  go_ret
  exact ⟨⟨_, _, rfl⟩, HH.out.1.below HB2.out, HB2.out.mono HH.out.2, keep_below HB2.out⟩
set_option maxRecDepth 100000 in
set_option maxHeartbeats 1000000 in
theorem oid_err_profile {w : World} {B g : Nat} {S : List (ByteArray × PV)} (h : Hd 3 w B g S) {v : Value} (hta : NoTxt v) (hBw : B ≤ w.heap.size) :
    Calls Tryz.prog 255 #[.pointer (some ⟨g, 0, none⟩), .string ⟨#[112, 114, 111, 102, 105, 108, 101]⟩, v] w (ErrP 3 B g S w) := by
  unfold NoTxt at hta
  have HE := Lib.hid (fun W s => errNew_calls W s)
  have HB := Lib.hid (below_alloc' (Below.refl w.heap.size w) (.cells #[.string ByteArray.empty] 9))
  have HH := Lib.hid (And.intro h hBw)
  clear h hBw
  go_enter Tryz.func255, Tryz.ntmps255
  go_wp2_with fail
  refine (HE.out _ _).mono ?_
  rintro e w2 ⟨⟨T, u, rfl⟩, hB2⟩
  have HB2 := Lib.hid (HB.out.trans (hB2.mono HB.out.size))
  clear hB2
  go_wp2
  go_ret
  exact ⟨⟨_, _, rfl⟩, HH.out.1.below HB2.out, HB2.out.mono HH.out.2, keep_below HB2.out⟩
set_option maxRecDepth 100000 in
set_option maxHeartbeats 1000000 in
theorem oid_err_sub {w : World} {B g : Nat} {S : List (ByteArray × PV)} (h : Hd 3 w B g S) {v : Value} (hta : NoTxt v) (hBw : B ≤ w.heap.size) :
    Calls Tryz.prog 255 #[.pointer (some ⟨g, 0, none⟩), .string ⟨#[115, 117, 98]⟩, v] w (ErrP 3 B g S w) := by
  unfold NoTxt at hta
  have HE := Lib.hid (fun W s => errNew_calls W s)
  have HB := Lib.hid (below_alloc' (Below.refl w.heap.size w) (.cells #[.string ByteArray.empty] 9))
  have HH := Lib.hid (And.intro h hBw)
  clear h hBw
  go_enter Tryz.func255, Tryz.ntmps255
  go_wp2_with fail
  refine (HE.out _ _).mono ?_
  rintro e w2 ⟨⟨T, u, rfl⟩, hB2⟩
  have HB2 := Lib.hid (HB.out.trans (hB2.mono HB.out.size))
  clear hB2
  go_wp2
  go_ret
  exact ⟨⟨_, _, rfl⟩, HH.out.1.below HB2.out, HB2.out.mono HH.out.2, keep_below HB2.out⟩
set_option maxRecDepth 100000 in
set_option maxHeartbeats 1000000 in
theorem oid_err_website {w : World} {B g : Nat} {S : List (ByteArray × PV)} (h : Hd 3 w B g S) {v : Value} (hta : NoTxt v) (hBw : B ≤ w.heap.size) :
    Calls Tryz.prog 255 #[.pointer (some ⟨g, 0, none⟩), .string ⟨#[119, 101, 98, 115, 105, 116, 101]⟩, v] w (ErrP 3 B g S w) := by
  unfold NoTxt at hta
  have HE := Lib.hid (fun W s => errNew_calls W s)
  have HB := Lib.hid (below_alloc' (Below.refl w.heap.size w) (.cells #[.string ByteArray.empty] 9))
  have HH := Lib.hid (And.intro h hBw)
  clear h hBw
  go_enter Tryz.func255, Tryz.ntmps255
  go_wp2_with fail
  refine (HE.out _ _).mono ?_
  rintro e w2 ⟨⟨T, u, rfl⟩, hB2⟩
  have HB2 := Lib.hid (HB.out.trans (hB2.mono HB.out.size))
  clear hB2
  go_wp2
  go_ret
  exact ⟨⟨_, _, rfl⟩, HH.out.1.below HB2.out, HB2.out.mono HH.out.2, keep_below HB2.out⟩
set_option maxRecDepth 100000 in
set_option maxHeartbeats 1000000 in
theorem oid_err_zoneinfo {w : World} {B g : Nat} {S : List (ByteArray × PV)} (h : Hd 3 w B g S) {v : Value} (hta : NoTxt v) (hBw : B ≤ w.heap.size) :
    Calls Tryz.prog 255 #[.pointer (some ⟨g, 0, none⟩), .string ⟨#[122, 111, 110, 101, 105, 110, 102, 111]⟩, v] w (ErrP 3 B g S w) := by
  unfold NoTxt at hta
  have HE := Lib.hid (fun W s => errNew_calls W s)
  have HB := Lib.hid (below_alloc' (Below.refl w.heap.size w) (.cells #[.string ByteArray.empty] 9))
  have HH := Lib.hid (And.intro h hBw)
  clear h hBw
  go_enter Tryz.func255, Tryz.ntmps255
  go_wp2_with fail
  refine (HE.out _ _).mono ?_
  rintro e w2 ⟨⟨T, u, rfl⟩, hB2⟩
  have HB2 := Lib.hid (HB.out.trans (hB2.mono HB.out.size))
  clear hB2
  go_wp2
  go_ret
  exact ⟨⟨_, _, rfl⟩, HH.out.1.below HB2.out, HB2.out.mono HH.out.2, keep_below HB2.out⟩
set_option maxRecDepth 100000 in
set_option maxHeartbeats 1000000 in
theorem oid_err_email_verified {w : World} {B g : Nat} {S : List (ByteArray × PV)} (h : Hd 3 w B g S) {v : Value} (hta : NoTru v) (hBw : B ≤ w.heap.size) :
    Calls Tryz.prog 255 #[.pointer (some ⟨g, 0, none⟩), .string ⟨#[101, 109, 97, 105, 108, 95, 118, 101, 114, 105, 102, 105, 101, 100]⟩, v] w (ErrP 3 B g S w) := by
  unfold NoTru at hta
  have HE := Lib.hid (fun W s => errNew_calls W s)
  have HB := Lib.hid (below_alloc' (Below.refl w.heap.size w) (.cells #[.bool false] 4))
  have HH := Lib.hid (And.intro h hBw)
  clear h hBw
  go_enter Tryz.func255, Tryz.ntmps255
  go_wp2_with fail
  refine (HE.out _ _).mono ?_
  rintro e w2 ⟨⟨T, u, rfl⟩, hB2⟩
  have HB2 := Lib.hid (HB.out.trans (hB2.mono HB.out.size))
  clear hB2
  go_wp2
  go_ret
  exact ⟨⟨_, _, rfl⟩, HH.out.1.below HB2.out, HB2.out.mono HH.out.2, keep_below HB2.out⟩
set_option maxRecDepth 100000 in
set_option maxHeartbeats 1000000 in
theorem oid_err_phone_number_verified {w : World} {B g : Nat} {S : List (ByteArray × PV)} (h : Hd 3 w B g S) {v : Value} (hta : NoTru v) (hBw : B ≤ w.heap.size) :
    Calls Tryz.prog 255 #[.pointer (some ⟨g, 0, none⟩), .string ⟨#[112, 104, 111, 110, 101, 95, 110, 117, 109, 98, 101, 114, 95, 118, 101, 114, 105, 102, 105, 101, 100]⟩, v] w (ErrP 3 B g S w) := by
  unfold NoTru at hta
  have HE := Lib.hid (fun W s => errNew_calls W s)
  have HB := Lib.hid (below_alloc' (Below.refl w.heap.size w) (.cells #[.bool false] 4))
  have HH := Lib.hid (And.intro h hBw)
  clear h hBw
  go_enter Tryz.func255, Tryz.ntmps255
  go_wp2_with fail
  refine (HE.out _ _).mono ?_
  rintro e w2 ⟨⟨T, u, rfl⟩, hB2⟩
  have HB2 := Lib.hid (HB.out.trans (hB2.mono HB.out.size))
  clear hB2
  go_wp2
  go_ret
  exact ⟨⟨_, _, rfl⟩, HH.out.1.below HB2.out, HB2.out.mono HH.out.2, keep_below HB2.out⟩
end Go.Proofs.YtapjbdigpleekaaGreat.Mp

/- Has, Remove and Set of a name that is not known, four kinds of maps; the conditions are on what lies in memory. Printed by gen_mprest.py. -/
set_option linter.unusedVariables false
set_option linter.unusedSimpArgs false
namespace Go.Proofs.YtapjbdigpleekaaGreat.Mp
open Go.RowKit Go.Proofs.YtapjbdigpleekaaGreat.K Go.Proofs.YtapjbdigpleekaaGreat.Cl
/-- A name that is neither known nor one of those of which the laws say nothing. -/
def Rest (k : Nat) (n : ByteArray) : Prop := isK k n = false ∧ n ∉ othL k
theorem Rest.ne {k : Nat} {n : ByteArray} (h : Rest k n) (x : ByteArray) (hx : (isK k x || (othL k).any (fun y => decide (y = x))) = true) : n ≠ x := by
  rintro rfl
  rw [h.1, Bool.false_or, List.any_eq_true] at hx
  obtain ⟨y, hy, e⟩ := hx
  exact h.2 (by rw [← of_decide_eq_true e]; exact hy)
theorem wpList_delete_run {P : Program} {ops : Array Oper} {rest : List Oper} {o : Oper} {a : Act} {Q : Exit → Act → World → Prop} {w w' : World} (hgd : o.guard = none) (s x : Operand) (t k : TypeId)
    (ho : o.op = .call { callee := .builtin .delete, args := #[s, x], argTypes := #[t, k] }) (v u : Value) (hs : a.eval s = v) (hx : a.eval x = u) (hrun : (Builtin.delete_ #[t, k] o.type #[v, u]).run P w = .ok (.tuple #[]) w')
    (h : wpList P ops Q rest (a.put o.dst (.tuple #[])) w') : wpList P ops Q (o :: rest) a w :=
  wpList_plain hgd fun K hK => by
    unfold Oper.wp execOp
    simp only [ho, resolve, invoke, builtin, Sem.run_bind, Sem.run_pure, Result.andThen_ok, List.map_toArray, List.map_cons, List.map_nil, hs, hx, hrun]
    exact hK _ _ h
/-- No error, and the fields are S. -/
def PutP (k B g : Nat) (S : List (ByteArray × PV)) (w : World) (e : Ending) (w' : World) : Prop := e = .returned .nilIface ∧ Hd k w' B g S ∧ Below B w w' ∧ Keep w g w'
theorem Parts.newmap {k : Nat} {w : World} {B g : Nat} {S : List (ByteArray × PV)} {cs : Array Value} (h : Parts k w B g S cs none) (hB : B ≤ w.heap.size) :
    Parts k ((w.alloc (.map #[] 0)).setCell ⟨g, mcK k, none⟩ (.map (some w.heap.size))) B g S (cs.setIfInBounds (mcK k) (.map (some w.heap.size))) (some w.heap.size) := by
  have hp : priv k S = [] := by
    rcases h.prv with ⟨_, h⟩ | ⟨mm, _, e, _⟩
    · exact h
    · cases e
  have h1 := h.below ((Below.refl w.heap.size w).alloc (Nat.le_refl _) (.map #[] 0))
  have hg := setCell_grown (w.alloc (.map #[] 0)) ⟨g, mcK k, none⟩ (.map (some w.heap.size))
  refine ⟨h1.blk.set_ _ _, ?_, ?_, ?_, ?_, h.base, h.nd, h.ok⟩
  · rw [get_set h.map_, if_pos rfl]
  · intro q hq
    rw [get_set (h.rest q hq), if_neg (fun e => rest_map hq e.symm)]
  · intro f hf
    obtain ⟨u, e, hu⟩ := h1.fld f hf
    refine ⟨u, ?_, hu.grown hg h1.safe⟩
    rw [get_set e, if_neg (fun e => place_map hf e.symm)]
  · rw [hp]
    exact .inr ⟨w.heap.size, [], rfl, hB, (MapL.new w).grown hg (fun e => by have := h.blk.lt; injection e with e; have e : w.heap.size = g := e; omega), rfl, fun t ht => by cases ht⟩
theorem zero_any (W : World) : (zeroValue 20).run Tryz.prog W = .ok .nilIface W := by kernel_rfl
set_option maxRecDepth 100000 in
theorem jws_Has_rest {w : World} {B g : Nat} {S : List (ByteArray × PV)} (h : Hd 0 w B g S) {n : ByteArray} (hr : Rest 0 n) :
    Calls Tryz.prog 170 #[.pointer (some ⟨g, 0, none⟩), .string n] w (Says (lookG S n).isSome w) := by
  obtain ⟨cs, m, h⟩ := h
  have q0 : (n.toList == [97, 108, 103]) = false := str_nel n [97, 108, 103] (hr.ne ⟨#[97, 108, 103]⟩ (by kernel_rfl))
  have q1 : (n.toList == [98, 54, 52]) = false := str_nel n [98, 54, 52] (hr.ne ⟨#[98, 54, 52]⟩ (by kernel_rfl))
  have q2 : (n.toList == [99, 116, 121]) = false := str_nel n [99, 116, 121] (hr.ne ⟨#[99, 116, 121]⟩ (by kernel_rfl))
  have q3 : (n.toList == [99, 114, 105, 116]) = false := str_nel n [99, 114, 105, 116] (hr.ne ⟨#[99, 114, 105, 116]⟩ (by kernel_rfl))
  have q4 : (n.toList == [106, 107, 117]) = false := str_nel n [106, 107, 117] (hr.ne ⟨#[106, 107, 117]⟩ (by kernel_rfl))
  have q5 : (n.toList == [107, 105, 100]) = false := str_nel n [107, 105, 100] (hr.ne ⟨#[107, 105, 100]⟩ (by kernel_rfl))
  have q6 : (n.toList == [116, 121, 112]) = false := str_nel n [116, 121, 112] (hr.ne ⟨#[116, 121, 112]⟩ (by kernel_rfl))
  have q7 : (n.toList == [120, 53, 116]) = false := str_nel n [120, 53, 116] (hr.ne ⟨#[120, 53, 116]⟩ (by kernel_rfl))
  have q8 : (n.toList == [120, 53, 116, 35, 83, 50, 53, 54]) = false := str_nel n [120, 53, 116, 35, 83, 50, 53, 54] (hr.ne ⟨#[120, 53, 116, 35, 83, 50, 53, 54]⟩ (by kernel_rfl))
  have q9 : (n.toList == [120, 53, 117]) = false := str_nel n [120, 53, 117] (hr.ne ⟨#[120, 53, 117]⟩ (by kernel_rfl))
  have hc : w.cell? ⟨g, 10, none⟩ = some (.map m) := by rw [h.blk.cell]; exact h.map_
  obtain ⟨v, hv, _⟩ := h.look hr.1 (mty := 169) Tryz.underlying169 Tryz.underlying9 .nilIface zero_any
  have hlk := hv w rfl
  obtain ⟨r, hrr⟩ : ∃ r, r = (lookG S n).isSome := ⟨_, rfl⟩
  rw [← hrr] at hlk ⊢
  clear hv h hr hrr
  go_enter Tryz.func170, Tryz.ntmps170
  go_wp2
  go_ret
  exact ⟨rfl, rfl⟩
set_option maxRecDepth 100000 in
theorem jws_Remove_rest {w : World} {B g : Nat} {S : List (ByteArray × PV)} (h : Hd 0 w B g S) {n : ByteArray} (hr : Rest 0 n) :
    Calls Tryz.prog 175 #[.pointer (some ⟨g, 0, none⟩), .string n] w (PutP 0 B g (dropG n S) w) := by
  obtain ⟨cs, m, h⟩ := h
  have q0 : (n.toList == [97, 108, 103]) = false := str_nel n [97, 108, 103] (hr.ne ⟨#[97, 108, 103]⟩ (by kernel_rfl))
  have q1 : (n.toList == [98, 54, 52]) = false := str_nel n [98, 54, 52] (hr.ne ⟨#[98, 54, 52]⟩ (by kernel_rfl))
  have q2 : (n.toList == [99, 116, 121]) = false := str_nel n [99, 116, 121] (hr.ne ⟨#[99, 116, 121]⟩ (by kernel_rfl))
  have q3 : (n.toList == [99, 114, 105, 116]) = false := str_nel n [99, 114, 105, 116] (hr.ne ⟨#[99, 114, 105, 116]⟩ (by kernel_rfl))
  have q4 : (n.toList == [106, 107, 117]) = false := str_nel n [106, 107, 117] (hr.ne ⟨#[106, 107, 117]⟩ (by kernel_rfl))
  have q5 : (n.toList == [107, 105, 100]) = false := str_nel n [107, 105, 100] (hr.ne ⟨#[107, 105, 100]⟩ (by kernel_rfl))
  have q6 : (n.toList == [116, 121, 112]) = false := str_nel n [116, 121, 112] (hr.ne ⟨#[116, 121, 112]⟩ (by kernel_rfl))
  have q7 : (n.toList == [120, 53, 116]) = false := str_nel n [120, 53, 116] (hr.ne ⟨#[120, 53, 116]⟩ (by kernel_rfl))
  have q8 : (n.toList == [120, 53, 116, 35, 83, 50, 53, 54]) = false := str_nel n [120, 53, 116, 35, 83, 50, 53, 54] (hr.ne ⟨#[120, 53, 116, 35, 83, 50, 53, 54]⟩ (by kernel_rfl))
  have q9 : (n.toList == [120, 53, 117]) = false := str_nel n [120, 53, 117] (hr.ne ⟨#[120, 53, 117]⟩ (by kernel_rfl))
  have hc : w.cell? ⟨g, 10, none⟩ = some (.map m) := by rw [h.blk.cell]; exact h.map_
  obtain ⟨w', hrun, hH, hB, hK⟩ := h.dropP hr.1 (mty := 169) Tryz.underlying169 Tryz.underlying9 0
  have HR := Lib.hid hrun
  have HH := Lib.hid (And.intro hH (And.intro hB hK))
  clear h hr hrun hH hB hK
  go_enter Tryz.func175, Tryz.ntmps175
  go_wp2_with (at_delete; refine wpList_delete_run rfl (.tmp _) (.tmp _) 169 9 rfl _ _ rfl rfl HR.out ?_)
  go_ret
  exact ⟨rfl, HH.out.1, HH.out.2⟩
set_option maxRecDepth 100000 in
set_option maxHeartbeats 1000000 in
theorem jws_set_rest {w : World} {B g : Nat} {S : List (ByteArray × PV)} (h : Hd 0 w B g S) {n : ByteArray} (hr : Rest 0 n) {v : Value} {x : PV} (hv : PVal w 0 v x) (hx : x.ok) (hBw : B ≤ w.heap.size) :
    Calls Tryz.prog 184 #[.pointer (some ⟨g, 0, none⟩), .string n, v] w (PutP 0 B g (putG n x S) w) := by
  obtain ⟨cs, m, h⟩ := h
  have q0 : (n.toList == [97, 108, 103]) = false := str_nel n [97, 108, 103] (hr.ne ⟨#[97, 108, 103]⟩ (by kernel_rfl))
  have q1 : (n.toList == [98, 54, 52]) = false := str_nel n [98, 54, 52] (hr.ne ⟨#[98, 54, 52]⟩ (by kernel_rfl))
  have q2 : (n.toList == [99, 116, 121]) = false := str_nel n [99, 116, 121] (hr.ne ⟨#[99, 116, 121]⟩ (by kernel_rfl))
  have q3 : (n.toList == [99, 114, 105, 116]) = false := str_nel n [99, 114, 105, 116] (hr.ne ⟨#[99, 114, 105, 116]⟩ (by kernel_rfl))
  have q4 : (n.toList == [106, 107, 117]) = false := str_nel n [106, 107, 117] (hr.ne ⟨#[106, 107, 117]⟩ (by kernel_rfl))
  have q5 : (n.toList == [107, 105, 100]) = false := str_nel n [107, 105, 100] (hr.ne ⟨#[107, 105, 100]⟩ (by kernel_rfl))
  have q6 : (n.toList == [116, 121, 112]) = false := str_nel n [116, 121, 112] (hr.ne ⟨#[116, 121, 112]⟩ (by kernel_rfl))
  have q7 : (n.toList == [120, 53, 116]) = false := str_nel n [120, 53, 116] (hr.ne ⟨#[120, 53, 116]⟩ (by kernel_rfl))
  have q8 : (n.toList == [120, 53, 116, 35, 83, 50, 53, 54]) = false := str_nel n [120, 53, 116, 35, 83, 50, 53, 54] (hr.ne ⟨#[120, 53, 116, 35, 83, 50, 53, 54]⟩ (by kernel_rfl))
  have q9 : (n.toList == [120, 53, 117]) = false := str_nel n [120, 53, 117] (hr.ne ⟨#[120, 53, 117]⟩ (by kernel_rfl))
  have hc : w.cell? ⟨g, 10, none⟩ = some (.map m) := by rw [h.blk.cell]; exact h.map_
  cases m with
  | some mm =>
    obtain ⟨w', hup, hH, hg, hm, hK⟩ := h.putP hr.1 hv hx (mty := 169) Tryz.underlying169 Tryz.underlying9
    have hmn : ∀ W : World, Sem.run Tryz.prog (binOp .eql 169 (.map (some mm)) (.map none)) W = .ok (.bool false) W := fun W => by kernel_rfl
    have HH := Lib.hid (And.intro hH (And.intro (below_of_grown hg hm hBw) hK))
    clear h hr hv hx hH hg hm hBw hK
    go_enter Tryz.func184, Tryz.ntmps184
    go_wp2
    go_ret
    exact ⟨rfl, HH.out.1, HH.out.2⟩
  | none =>
    have h1 := h.newmap hBw
    have hg1 := setCell_grown (w.alloc (.map #[] 0)) ⟨g, 10, none⟩ (.map (some w.heap.size))
    have hb1 := h.blk.alloc (.map #[] 0)
    have hf : (w.alloc (.map #[] 0)).frozen? ⟨g, 10, none⟩ = false := hb1.frozen 10
    have hc1 : (w.alloc (.map #[] 0)).cell? ⟨g, 10, none⟩ = some (.map none) := by rw [hb1.cell]; exact h.map_
    have hc2 : ((w.alloc (.map #[] 0)).setCell ⟨g, 10, none⟩ (.map (some w.heap.size))).cell? ⟨g, 10, none⟩ = some (.map (some w.heap.size)) := (h1.blk.cell 10).trans h1.map_
    have hvw := (hv.grown (World.grownBy_alloc w (.map #[] 0) none) (safe_none w)).grown hg1 (safe_blk hb1 (tyK_ne 0))
    obtain ⟨w', hup, hH, hg, hm, hK⟩ := h1.putP hr.1 hvw hx (mty := 169) Tryz.underlying169 Tryz.underlying9
    rw [show mcK 0 = 10 from rfl] at hup
    have hmn : ∀ W : World, Sem.run Tryz.prog (binOp .eql 169 (.map none) (.map none)) W = .ok (.bool true) W := fun W => by kernel_rfl
    have hmm := @run_makeMap Tryz.prog
    have HB : Hid (Below B w w') := Lib.hid (((((Below.refl B w).alloc hBw (.map #[] 0)).setCell (p := ⟨g, 10, none⟩) h.base (.map (some w.heap.size)))).trans (below_of_grown hg hm (Nat.le_trans hBw (by simp [World.setCell]))))
    have HH := Lib.hid hH
    have HKP : Hid (Keep w g w') := Lib.hid (((keep_below (below_alloc' (Below.refl _ _) (.map #[] 0))).trans (keep_g hg1)).trans hK)
    clear hK h h1 hg1 hb1 hr hv hx hH hg hm hBw hvw
    go_enter Tryz.func184, Tryz.ntmps184
    go_wp2
    go_ret
    exact ⟨rfl, HH.out, HB.out, HKP.out⟩
set_option maxRecDepth 100000 in
theorem jwe_Has_rest {w : World} {B g : Nat} {S : List (ByteArray × PV)} (h : Hd 1 w B g S) {n : ByteArray} (hr : Rest 1 n) :
    Calls Tryz.prog 207 #[.pointer (some ⟨g, 0, none⟩), .string n] w (Says (lookG S n).isSome w) := by
  obtain ⟨cs, m, h⟩ := h
  have q0 : (n.toList == [97, 112, 117]) = false := str_nel n [97, 112, 117] (hr.ne ⟨#[97, 112, 117]⟩ (by kernel_rfl))
  have q1 : (n.toList == [97, 112, 118]) = false := str_nel n [97, 112, 118] (hr.ne ⟨#[97, 112, 118]⟩ (by kernel_rfl))
  have q2 : (n.toList == [97, 108, 103]) = false := str_nel n [97, 108, 103] (hr.ne ⟨#[97, 108, 103]⟩ (by kernel_rfl))
  have q3 : (n.toList == [122, 105, 112]) = false := str_nel n [122, 105, 112] (hr.ne ⟨#[122, 105, 112]⟩ (by kernel_rfl))
  have q4 : (n.toList == [101, 110, 99]) = false := str_nel n [101, 110, 99] (hr.ne ⟨#[101, 110, 99]⟩ (by kernel_rfl))
  have q5 : (n.toList == [99, 116, 121]) = false := str_nel n [99, 116, 121] (hr.ne ⟨#[99, 116, 121]⟩ (by kernel_rfl))
  have q6 : (n.toList == [99, 114, 105, 116]) = false := str_nel n [99, 114, 105, 116] (hr.ne ⟨#[99, 114, 105, 116]⟩ (by kernel_rfl))
  have q7 : (n.toList == [106, 107, 117]) = false := str_nel n [106, 107, 117] (hr.ne ⟨#[106, 107, 117]⟩ (by kernel_rfl))
  have q8 : (n.toList == [107, 105, 100]) = false := str_nel n [107, 105, 100] (hr.ne ⟨#[107, 105, 100]⟩ (by kernel_rfl))
  have q9 : (n.toList == [116, 121, 112]) = false := str_nel n [116, 121, 112] (hr.ne ⟨#[116, 121, 112]⟩ (by kernel_rfl))
  have q10 : (n.toList == [120, 53, 116]) = false := str_nel n [120, 53, 116] (hr.ne ⟨#[120, 53, 116]⟩ (by kernel_rfl))
  have q11 : (n.toList == [120, 53, 116, 35, 83, 50, 53, 54]) = false := str_nel n [120, 53, 116, 35, 83, 50, 53, 54] (hr.ne ⟨#[120, 53, 116, 35, 83, 50, 53, 54]⟩ (by kernel_rfl))
  have q12 : (n.toList == [120, 53, 117]) = false := str_nel n [120, 53, 117] (hr.ne ⟨#[120, 53, 117]⟩ (by kernel_rfl))
  have hc : w.cell? ⟨g, 13, none⟩ = some (.map m) := by rw [h.blk.cell]; exact h.map_
  obtain ⟨v, hv, _⟩ := h.look hr.1 (mty := 169) Tryz.underlying169 Tryz.underlying9 .nilIface zero_any
  have hlk := hv w rfl
  obtain ⟨r, hrr⟩ : ∃ r, r = (lookG S n).isSome := ⟨_, rfl⟩
  rw [← hrr] at hlk ⊢
  clear hv h hr hrr
  go_enter Tryz.func207, Tryz.ntmps207
  go_wp2
  go_ret
  exact ⟨rfl, rfl⟩
set_option maxRecDepth 100000 in
theorem jwe_Remove_rest {w : World} {B g : Nat} {S : List (ByteArray × PV)} (h : Hd 1 w B g S) {n : ByteArray} (hr : Rest 1 n) :
    Calls Tryz.prog 212 #[.pointer (some ⟨g, 0, none⟩), .string n] w (PutP 1 B g (dropG n S) w) := by
  obtain ⟨cs, m, h⟩ := h
  have q0 : (n.toList == [97, 112, 117]) = false := str_nel n [97, 112, 117] (hr.ne ⟨#[97, 112, 117]⟩ (by kernel_rfl))
  have q1 : (n.toList == [97, 112, 118]) = false := str_nel n [97, 112, 118] (hr.ne ⟨#[97, 112, 118]⟩ (by kernel_rfl))
  have q2 : (n.toList == [97, 108, 103]) = false := str_nel n [97, 108, 103] (hr.ne ⟨#[97, 108, 103]⟩ (by kernel_rfl))
  have q3 : (n.toList == [122, 105, 112]) = false := str_nel n [122, 105, 112] (hr.ne ⟨#[122, 105, 112]⟩ (by kernel_rfl))
  have q4 : (n.toList == [101, 110, 99]) = false := str_nel n [101, 110, 99] (hr.ne ⟨#[101, 110, 99]⟩ (by kernel_rfl))
  have q5 : (n.toList == [99, 116, 121]) = false := str_nel n [99, 116, 121] (hr.ne ⟨#[99, 116, 121]⟩ (by kernel_rfl))
  have q6 : (n.toList == [99, 114, 105, 116]) = false := str_nel n [99, 114, 105, 116] (hr.ne ⟨#[99, 114, 105, 116]⟩ (by kernel_rfl))
  have q7 : (n.toList == [106, 107, 117]) = false := str_nel n [106, 107, 117] (hr.ne ⟨#[106, 107, 117]⟩ (by kernel_rfl))
  have q8 : (n.toList == [107, 105, 100]) = false := str_nel n [107, 105, 100] (hr.ne ⟨#[107, 105, 100]⟩ (by kernel_rfl))
  have q9 : (n.toList == [116, 121, 112]) = false := str_nel n [116, 121, 112] (hr.ne ⟨#[116, 121, 112]⟩ (by kernel_rfl))
  have q10 : (n.toList == [120, 53, 116]) = false := str_nel n [120, 53, 116] (hr.ne ⟨#[120, 53, 116]⟩ (by kernel_rfl))
  have q11 : (n.toList == [120, 53, 116, 35, 83, 50, 53, 54]) = false := str_nel n [120, 53, 116, 35, 83, 50, 53, 54] (hr.ne ⟨#[120, 53, 116, 35, 83, 50, 53, 54]⟩ (by kernel_rfl))
  have q12 : (n.toList == [120, 53, 117]) = false := str_nel n [120, 53, 117] (hr.ne ⟨#[120, 53, 117]⟩ (by kernel_rfl))
  have hc : w.cell? ⟨g, 13, none⟩ = some (.map m) := by rw [h.blk.cell]; exact h.map_
  obtain ⟨w', hrun, hH, hB, hK⟩ := h.dropP hr.1 (mty := 169) Tryz.underlying169 Tryz.underlying9 0
  have HR := Lib.hid hrun
  have HH := Lib.hid (And.intro hH (And.intro hB hK))
  clear h hr hrun hH hB hK
  go_enter Tryz.func212, Tryz.ntmps212
  go_wp2_with (at_delete; refine wpList_delete_run rfl (.tmp _) (.tmp _) 169 9 rfl _ _ rfl rfl HR.out ?_)
  go_ret
  exact ⟨rfl, HH.out.1, HH.out.2⟩
set_option maxRecDepth 100000 in
set_option maxHeartbeats 1000000 in
theorem jwe_set_rest {w : World} {B g : Nat} {S : List (ByteArray × PV)} (h : Hd 1 w B g S) {n : ByteArray} (hr : Rest 1 n) {v : Value} {x : PV} (hv : PVal w 0 v x) (hx : x.ok) (hBw : B ≤ w.heap.size) :
    Calls Tryz.prog 220 #[.pointer (some ⟨g, 0, none⟩), .string n, v] w (PutP 1 B g (putG n x S) w) := by
  obtain ⟨cs, m, h⟩ := h
  have q0 : (n.toList == [97, 112, 117]) = false := str_nel n [97, 112, 117] (hr.ne ⟨#[97, 112, 117]⟩ (by kernel_rfl))
  have q1 : (n.toList == [97, 112, 118]) = false := str_nel n [97, 112, 118] (hr.ne ⟨#[97, 112, 118]⟩ (by kernel_rfl))
  have q2 : (n.toList == [97, 108, 103]) = false := str_nel n [97, 108, 103] (hr.ne ⟨#[97, 108, 103]⟩ (by kernel_rfl))
  have q3 : (n.toList == [122, 105, 112]) = false := str_nel n [122, 105, 112] (hr.ne ⟨#[122, 105, 112]⟩ (by kernel_rfl))
  have q4 : (n.toList == [101, 110, 99]) = false := str_nel n [101, 110, 99] (hr.ne ⟨#[101, 110, 99]⟩ (by kernel_rfl))
  have q5 : (n.toList == [99, 116, 121]) = false := str_nel n [99, 116, 121] (hr.ne ⟨#[99, 116, 121]⟩ (by kernel_rfl))
  have q6 : (n.toList == [99, 114, 105, 116]) = false := str_nel n [99, 114, 105, 116] (hr.ne ⟨#[99, 114, 105, 116]⟩ (by kernel_rfl))
  have q7 : (n.toList == [106, 107, 117]) = false := str_nel n [106, 107, 117] (hr.ne ⟨#[106, 107, 117]⟩ (by kernel_rfl))
  have q8 : (n.toList == [107, 105, 100]) = false := str_nel n [107, 105, 100] (hr.ne ⟨#[107, 105, 100]⟩ (by kernel_rfl))
  have q9 : (n.toList == [116, 121, 112]) = false := str_nel n [116, 121, 112] (hr.ne ⟨#[116, 121, 112]⟩ (by kernel_rfl))
  have q10 : (n.toList == [120, 53, 116]) = false := str_nel n [120, 53, 116] (hr.ne ⟨#[120, 53, 116]⟩ (by kernel_rfl))
  have q11 : (n.toList == [120, 53, 116, 35, 83, 50, 53, 54]) = false := str_nel n [120, 53, 116, 35, 83, 50, 53, 54] (hr.ne ⟨#[120, 53, 116, 35, 83, 50, 53, 54]⟩ (by kernel_rfl))
  have q12 : (n.toList == [120, 53, 117]) = false := str_nel n [120, 53, 117] (hr.ne ⟨#[120, 53, 117]⟩ (by kernel_rfl))
  have hc : w.cell? ⟨g, 13, none⟩ = some (.map m) := by rw [h.blk.cell]; exact h.map_
  cases m with
  | some mm =>
    obtain ⟨w', hup, hH, hg, hm, hK⟩ := h.putP hr.1 hv hx (mty := 169) Tryz.underlying169 Tryz.underlying9
    have hmn : ∀ W : World, Sem.run Tryz.prog (binOp .eql 169 (.map (some mm)) (.map none)) W = .ok (.bool false) W := fun W => by kernel_rfl
    have HH := Lib.hid (And.intro hH (And.intro (below_of_grown hg hm hBw) hK))
    clear h hr hv hx hH hg hm hBw hK
    go_enter Tryz.func220, Tryz.ntmps220
    go_wp2
    go_ret
    exact ⟨rfl, HH.out.1, HH.out.2⟩
  | none =>
    have h1 := h.newmap hBw
    have hg1 := setCell_grown (w.alloc (.map #[] 0)) ⟨g, 13, none⟩ (.map (some w.heap.size))
    have hb1 := h.blk.alloc (.map #[] 0)
    have hf : (w.alloc (.map #[] 0)).frozen? ⟨g, 13, none⟩ = false := hb1.frozen 13
    have hc1 : (w.alloc (.map #[] 0)).cell? ⟨g, 13, none⟩ = some (.map none) := by rw [hb1.cell]; exact h.map_
    have hc2 : ((w.alloc (.map #[] 0)).setCell ⟨g, 13, none⟩ (.map (some w.heap.size))).cell? ⟨g, 13, none⟩ = some (.map (some w.heap.size)) := (h1.blk.cell 13).trans h1.map_
    have hvw := (hv.grown (World.grownBy_alloc w (.map #[] 0) none) (safe_none w)).grown hg1 (safe_blk hb1 (tyK_ne 1))
    obtain ⟨w', hup, hH, hg, hm, hK⟩ := h1.putP hr.1 hvw hx (mty := 169) Tryz.underlying169 Tryz.underlying9
    rw [show mcK 1 = 13 from rfl] at hup
    have hmn : ∀ W : World, Sem.run Tryz.prog (binOp .eql 169 (.map none) (.map none)) W = .ok (.bool true) W := fun W => by kernel_rfl
    have hmm := @run_makeMap Tryz.prog
    have HB : Hid (Below B w w') := Lib.hid (((((Below.refl B w).alloc hBw (.map #[] 0)).setCell (p := ⟨g, 13, none⟩) h.base (.map (some w.heap.size)))).trans (below_of_grown hg hm (Nat.le_trans hBw (by simp [World.setCell]))))
    have HH := Lib.hid hH
    have HKP : Hid (Keep w g w') := Lib.hid (((keep_below (below_alloc' (Below.refl _ _) (.map #[] 0))).trans (keep_g hg1)).trans hK)
    clear hK h h1 hg1 hb1 hr hv hx hH hg hm hBw hvw
    go_enter Tryz.func220, Tryz.ntmps220
    go_wp2
    go_ret
    exact ⟨rfl, HH.out, HB.out, HKP.out⟩
set_option maxRecDepth 100000 in
theorem jwt_Has_rest {w : World} {B g : Nat} {S : List (ByteArray × PV)} (h : Hd 2 w B g S) {n : ByteArray} (hr : Rest 2 n) :
    Calls Tryz.prog 261 #[.pointer (some ⟨g, 0, none⟩), .string n] w (Says (lookG S n).isSome w) := by
  obtain ⟨cs, m, h⟩ := h
  have q0 : (n.toList == [97, 117, 100]) = false := str_nel n [97, 117, 100] (hr.ne ⟨#[97, 117, 100]⟩ (by kernel_rfl))
  have q1 : (n.toList == [105, 115, 115]) = false := str_nel n [105, 115, 115] (hr.ne ⟨#[105, 115, 115]⟩ (by kernel_rfl))
  have q2 : (n.toList == [106, 116, 105]) = false := str_nel n [106, 116, 105] (hr.ne ⟨#[106, 116, 105]⟩ (by kernel_rfl))
  have q3 : (n.toList == [115, 117, 98]) = false := str_nel n [115, 117, 98] (hr.ne ⟨#[115, 117, 98]⟩ (by kernel_rfl))
  have hc : w.cell? ⟨g, 5, none⟩ = some (.map m) := by rw [h.blk.cell]; exact h.map_
  obtain ⟨v, hv, _⟩ := h.look hr.1 (mty := 169) Tryz.underlying169 Tryz.underlying9 .nilIface zero_any
  have hlk := hv w rfl
  obtain ⟨r, hrr⟩ : ∃ r, r = (lookG S n).isSome := ⟨_, rfl⟩
  rw [← hrr] at hlk ⊢
  clear hv h hr hrr
  go_enter Tryz.func261, Tryz.ntmps261
  go_wp2
  go_ret
  exact ⟨rfl, rfl⟩
set_option maxRecDepth 100000 in
theorem jwt_Remove_rest {w : World} {B g : Nat} {S : List (ByteArray × PV)} (h : Hd 2 w B g S) {n : ByteArray} (hr : Rest 2 n) :
    Calls Tryz.prog 266 #[.pointer (some ⟨g, 0, none⟩), .string n] w (PutP 2 B g (dropG n S) w) := by
  obtain ⟨cs, m, h⟩ := h
  have q0 : (n.toList == [97, 117, 100]) = false := str_nel n [97, 117, 100] (hr.ne ⟨#[97, 117, 100]⟩ (by kernel_rfl))
  have q1 : (n.toList == [105, 115, 115]) = false := str_nel n [105, 115, 115] (hr.ne ⟨#[105, 115, 115]⟩ (by kernel_rfl))
  have q2 : (n.toList == [106, 116, 105]) = false := str_nel n [106, 116, 105] (hr.ne ⟨#[106, 116, 105]⟩ (by kernel_rfl))
  have q3 : (n.toList == [115, 117, 98]) = false := str_nel n [115, 117, 98] (hr.ne ⟨#[115, 117, 98]⟩ (by kernel_rfl))
  have hc : w.cell? ⟨g, 5, none⟩ = some (.map m) := by rw [h.blk.cell]; exact h.map_
  obtain ⟨w', hrun, hH, hB, hK⟩ := h.dropP hr.1 (mty := 169) Tryz.underlying169 Tryz.underlying9 0
  have HR := Lib.hid hrun
  have HH := Lib.hid (And.intro hH (And.intro hB hK))
  clear h hr hrun hH hB hK
  go_enter Tryz.func266, Tryz.ntmps266
  go_wp2_with (at_delete; refine wpList_delete_run rfl (.tmp _) (.tmp _) 169 9 rfl _ _ rfl rfl HR.out ?_)
  go_ret
  exact ⟨rfl, HH.out.1, HH.out.2⟩
set_option maxRecDepth 100000 in
set_option maxHeartbeats 1000000 in
theorem jwt_set_rest {w : World} {B g : Nat} {S : List (ByteArray × PV)} (h : Hd 2 w B g S) {n : ByteArray} (hr : Rest 2 n) {v : Value} {x : PV} (hv : PVal w 0 v x) (hx : x.ok) (hBw : B ≤ w.heap.size) :
    Calls Tryz.prog 271 #[.pointer (some ⟨g, 0, none⟩), .string n, v] w (PutP 2 B g (putG n x S) w) := by
  obtain ⟨cs, m, h⟩ := h
  have q0 : (n.toList == [97, 117, 100]) = false := str_nel n [97, 117, 100] (hr.ne ⟨#[97, 117, 100]⟩ (by kernel_rfl))
  have q1 : (n.toList == [105, 115, 115]) = false := str_nel n [105, 115, 115] (hr.ne ⟨#[105, 115, 115]⟩ (by kernel_rfl))
  have q2 : (n.toList == [106, 116, 105]) = false := str_nel n [106, 116, 105] (hr.ne ⟨#[106, 116, 105]⟩ (by kernel_rfl))
  have q3 : (n.toList == [115, 117, 98]) = false := str_nel n [115, 117, 98] (hr.ne ⟨#[115, 117, 98]⟩ (by kernel_rfl))
  have hc : w.cell? ⟨g, 5, none⟩ = some (.map m) := by rw [h.blk.cell]; exact h.map_
  cases m with
  | some mm =>
    obtain ⟨w', hup, hH, hg, hm, hK⟩ := h.putP hr.1 hv hx (mty := 169) Tryz.underlying169 Tryz.underlying9
    have hmn : ∀ W : World, Sem.run Tryz.prog (binOp .eql 169 (.map (some mm)) (.map none)) W = .ok (.bool false) W := fun W => by kernel_rfl
    have HH := Lib.hid (And.intro hH (And.intro (below_of_grown hg hm hBw) hK))
    clear h hr hv hx hH hg hm hBw hK
    go_enter Tryz.func271, Tryz.ntmps271
    go_wp2
    go_ret
    exact ⟨rfl, HH.out.1, HH.out.2⟩
  | none =>
    have h1 := h.newmap hBw
    have hg1 := setCell_grown (w.alloc (.map #[] 0)) ⟨g, 5, none⟩ (.map (some w.heap.size))
    have hb1 := h.blk.alloc (.map #[] 0)
    have hf : (w.alloc (.map #[] 0)).frozen? ⟨g, 5, none⟩ = false := hb1.frozen 5
    have hc1 : (w.alloc (.map #[] 0)).cell? ⟨g, 5, none⟩ = some (.map none) := by rw [hb1.cell]; exact h.map_
    have hc2 : ((w.alloc (.map #[] 0)).setCell ⟨g, 5, none⟩ (.map (some w.heap.size))).cell? ⟨g, 5, none⟩ = some (.map (some w.heap.size)) := (h1.blk.cell 5).trans h1.map_
    have hvw := (hv.grown (World.grownBy_alloc w (.map #[] 0) none) (safe_none w)).grown hg1 (safe_blk hb1 (tyK_ne 2))
    obtain ⟨w', hup, hH, hg, hm, hK⟩ := h1.putP hr.1 hvw hx (mty := 169) Tryz.underlying169 Tryz.underlying9
    rw [show mcK 2 = 5 from rfl] at hup
    have hmn : ∀ W : World, Sem.run Tryz.prog (binOp .eql 169 (.map none) (.map none)) W = .ok (.bool true) W := fun W => by kernel_rfl
    have hmm := @run_makeMap Tryz.prog
    have HB : Hid (Below B w w') := Lib.hid (((((Below.refl B w).alloc hBw (.map #[] 0)).setCell (p := ⟨g, 5, none⟩) h.base (.map (some w.heap.size)))).trans (below_of_grown hg hm (Nat.le_trans hBw (by simp [World.setCell]))))
    have HH := Lib.hid hH
    have HKP : Hid (Keep w g w') := Lib.hid (((keep_below (below_alloc' (Below.refl _ _) (.map #[] 0))).trans (keep_g hg1)).trans hK)
    clear hK h h1 hg1 hb1 hr hv hx hH hg hm hBw hvw
    go_enter Tryz.func271, Tryz.ntmps271
    go_wp2
    go_ret
    exact ⟨rfl, HH.out, HB.out, HKP.out⟩
set_option maxRecDepth 100000 in
theorem oid_Has_rest {w : World} {B g : Nat} {S : List (ByteArray × PV)} (h : Hd 3 w B g S) {n : ByteArray} (hr : Rest 3 n) :
    Calls Tryz.prog 234 #[.pointer (some ⟨g, 0, none⟩), .string n] w (Says (lookG S n).isSome w) := by
  obtain ⟨cs, m, h⟩ := h
  have q0 : (n.toList == [97, 117, 100]) = false := str_nel n [97, 117, 100] (hr.ne ⟨#[97, 117, 100]⟩ (by kernel_rfl))
  have q1 : (n.toList == [101, 109, 97, 105, 108]) = false := str_nel n [101, 109, 97, 105, 108] (hr.ne ⟨#[101, 109, 97, 105, 108]⟩ (by kernel_rfl))
  have q2 : (n.toList == [101, 109, 97, 105, 108, 95, 118, 101, 114, 105, 102, 105, 101, 100]) = false := str_nel n [101, 109, 97, 105, 108, 95, 118, 101, 114, 105, 102, 105, 101, 100] (hr.ne ⟨#[101, 109, 97, 105, 108, 95, 118, 101, 114, 105, 102, 105, 101, 100]⟩ (by kernel_rfl))
  have q3 : (n.toList == [102, 97, 109, 105, 108, 121, 95, 110, 97, 109, 101]) = false := str_nel n [102, 97, 109, 105, 108, 121, 95, 110, 97, 109, 101] (hr.ne ⟨#[102, 97, 109, 105, 108, 121, 95, 110, 97, 109, 101]⟩ (by kernel_rfl))
  have q4 : (n.toList == [103, 101, 110, 100, 101, 114]) = false := str_nel n [103, 101, 110, 100, 101, 114] (hr.ne ⟨#[103, 101, 110, 100, 101, 114]⟩ (by kernel_rfl))
  have q5 : (n.toList == [103, 105, 118, 101, 110, 95, 110, 97, 109, 101]) = false := str_nel n [103, 105, 118, 101, 110, 95, 110, 97, 109, 101] (hr.ne ⟨#[103, 105, 118, 101, 110, 95, 110, 97, 109, 101]⟩ (by kernel_rfl))
  have q6 : (n.toList == [105, 115, 115]) = false := str_nel n [105, 115, 115] (hr.ne ⟨#[105, 115, 115]⟩ (by kernel_rfl))
  have q7 : (n.toList == [106, 116, 105]) = false := str_nel n [106, 116, 105] (hr.ne ⟨#[106, 116, 105]⟩ (by kernel_rfl))
  have q8 : (n.toList == [108, 111, 99, 97, 108, 101]) = false := str_nel n [108, 111, 99, 97, 108, 101] (hr.ne ⟨#[108, 111, 99, 97, 108, 101]⟩ (by kernel_rfl))
  have q9 : (n.toList == [109, 105, 100, 100, 108, 101, 95, 110, 97, 109, 101]) = false := str_nel n [109, 105, 100, 100, 108, 101, 95, 110, 97, 109, 101] (hr.ne ⟨#[109, 105, 100, 100, 108, 101, 95, 110, 97, 109, 101]⟩ (by kernel_rfl))
  have q10 : (n.toList == [110, 97, 109, 101]) = false := str_nel n [110, 97, 109, 101] (hr.ne ⟨#[110, 97, 109, 101]⟩ (by kernel_rfl))
  have q11 : (n.toList == [110, 105, 99, 107, 110, 97, 109, 101]) = false := str_nel n [110, 105, 99, 107, 110, 97, 109, 101] (hr.ne ⟨#[110, 105, 99, 107, 110, 97, 109, 101]⟩ (by kernel_rfl))
  have q12 : (n.toList == [112, 104, 111, 110, 101, 95, 110, 117, 109, 98, 101, 114]) = false := str_nel n [112, 104, 111, 110, 101, 95, 110, 117, 109, 98, 101, 114] (hr.ne ⟨#[112, 104, 111, 110, 101, 95, 110, 117, 109, 98, 101, 114]⟩ (by kernel_rfl))
  have q13 : (n.toList == [112, 104, 111, 110, 101, 95, 110, 117, 109, 98, 101, 114, 95, 118, 101, 114, 105, 102, 105, 101, 100]) = false := str_nel n [112, 104, 111, 110, 101, 95, 110, 117, 109, 98, 101, 114, 95, 118, 101, 114, 105, 102, 105, 101, 100] (hr.ne ⟨#[112, 104, 111, 110, 101, 95, 110, 117, 109, 98, 101, 114, 95, 118, 101, 114, 105, 102, 105, 101, 100]⟩ (by kernel_rfl))
  have q14 : (n.toList == [112, 105, 99, 116, 117, 114, 101]) = false := str_nel n [112, 105, 99, 116, 117, 114, 101] (hr.ne ⟨#[112, 105, 99, 116, 117, 114, 101]⟩ (by kernel_rfl))
  have q15 : (n.toList == [112, 114, 101, 102, 101, 114, 114, 101, 100, 95, 117, 115, 101, 114, 110, 97, 109, 101]) = false := str_nel n [112, 114, 101, 102, 101, 114, 114, 101, 100, 95, 117, 115, 101, 114, 110, 97, 109, 101] (hr.ne ⟨#[112, 114, 101, 102, 101, 114, 114, 101, 100, 95, 117, 115, 101, 114, 110, 97, 109, 101]⟩ (by kernel_rfl))
  have q16 : (n.toList == [112, 114, 111, 102, 105, 108, 101]) = false := str_nel n [112, 114, 111, 102, 105, 108, 101] (hr.ne ⟨#[112, 114, 111, 102, 105, 108, 101]⟩ (by kernel_rfl))
  have q17 : (n.toList == [115, 117, 98]) = false := str_nel n [115, 117, 98] (hr.ne ⟨#[115, 117, 98]⟩ (by kernel_rfl))
  have q18 : (n.toList == [119, 101, 98, 115, 105, 116, 101]) = false := str_nel n [119, 101, 98, 115, 105, 116, 101] (hr.ne ⟨#[119, 101, 98, 115, 105, 116, 101]⟩ (by kernel_rfl))
  have q19 : (n.toList == [122, 111, 110, 101, 105, 110, 102, 111]) = false := str_nel n [122, 111, 110, 101, 105, 110, 102, 111] (hr.ne ⟨#[122, 111, 110, 101, 105, 110, 102, 111]⟩ (by kernel_rfl))
  have hc : w.cell? ⟨g, 21, none⟩ = some (.map m) := by rw [h.blk.cell]; exact h.map_
  obtain ⟨v, hv, _⟩ := h.look hr.1 (mty := 169) Tryz.underlying169 Tryz.underlying9 .nilIface zero_any
  have hlk := hv w rfl
  obtain ⟨r, hrr⟩ : ∃ r, r = (lookG S n).isSome := ⟨_, rfl⟩
  rw [← hrr] at hlk ⊢
  clear hv h hr hrr
  go_enter Tryz.func234, Tryz.ntmps234
  go_wp2
  go_ret
  exact ⟨rfl, rfl⟩
set_option maxRecDepth 100000 in
theorem oid_Remove_rest {w : World} {B g : Nat} {S : List (ByteArray × PV)} (h : Hd 3 w B g S) {n : ByteArray} (hr : Rest 3 n) :
    Calls Tryz.prog 248 #[.pointer (some ⟨g, 0, none⟩), .string n] w (PutP 3 B g (dropG n S) w) := by
  obtain ⟨cs, m, h⟩ := h
  have q0 : (n.toList == [97, 117, 100]) = false := str_nel n [97, 117, 100] (hr.ne ⟨#[97, 117, 100]⟩ (by kernel_rfl))
  have q1 : (n.toList == [101, 109, 97, 105, 108]) = false := str_nel n [101, 109, 97, 105, 108] (hr.ne ⟨#[101, 109, 97, 105, 108]⟩ (by kernel_rfl))
  have q2 : (n.toList == [101, 109, 97, 105, 108, 95, 118, 101, 114, 105, 102, 105, 101, 100]) = false := str_nel n [101, 109, 97, 105, 108, 95, 118, 101, 114, 105, 102, 105, 101, 100] (hr.ne ⟨#[101, 109, 97, 105, 108, 95, 118, 101, 114, 105, 102, 105, 101, 100]⟩ (by kernel_rfl))
  have q3 : (n.toList == [102, 97, 109, 105, 108, 121, 95, 110, 97, 109, 101]) = false := str_nel n [102, 97, 109, 105, 108, 121, 95, 110, 97, 109, 101] (hr.ne ⟨#[102, 97, 109, 105, 108, 121, 95, 110, 97, 109, 101]⟩ (by kernel_rfl))
  have q4 : (n.toList == [103, 101, 110, 100, 101, 114]) = false := str_nel n [103, 101, 110, 100, 101, 114] (hr.ne ⟨#[103, 101, 110, 100, 101, 114]⟩ (by kernel_rfl))
  have q5 : (n.toList == [103, 105, 118, 101, 110, 95, 110, 97, 109, 101]) = false := str_nel n [103, 105, 118, 101, 110, 95, 110, 97, 109, 101] (hr.ne ⟨#[103, 105, 118, 101, 110, 95, 110, 97, 109, 101]⟩ (by kernel_rfl))
  have q6 : (n.toList == [105, 115, 115]) = false := str_nel n [105, 115, 115] (hr.ne ⟨#[105, 115, 115]⟩ (by kernel_rfl))
  have q7 : (n.toList == [106, 116, 105]) = false := str_nel n [106, 116, 105] (hr.ne ⟨#[106, 116, 105]⟩ (by kernel_rfl))
  have q8 : (n.toList == [108, 111, 99, 97, 108, 101]) = false := str_nel n [108, 111, 99, 97, 108, 101] (hr.ne ⟨#[108, 111, 99, 97, 108, 101]⟩ (by kernel_rfl))
  have q9 : (n.toList == [109, 105, 100, 100, 108, 101, 95, 110, 97, 109, 101]) = false := str_nel n [109, 105, 100, 100, 108, 101, 95, 110, 97, 109, 101] (hr.ne ⟨#[109, 105, 100, 100, 108, 101, 95, 110, 97, 109, 101]⟩ (by kernel_rfl))
  have q10 : (n.toList == [110, 97, 109, 101]) = false := str_nel n [110, 97, 109, 101] (hr.ne ⟨#[110, 97, 109, 101]⟩ (by kernel_rfl))
  have q11 : (n.toList == [110, 105, 99, 107, 110, 97, 109, 101]) = false := str_nel n [110, 105, 99, 107, 110, 97, 109, 101] (hr.ne ⟨#[110, 105, 99, 107, 110, 97, 109, 101]⟩ (by kernel_rfl))
  have q12 : (n.toList == [112, 104, 111, 110, 101, 95, 110, 117, 109, 98, 101, 114]) = false := str_nel n [112, 104, 111, 110, 101, 95, 110, 117, 109, 98, 101, 114] (hr.ne ⟨#[112, 104, 111, 110, 101, 95, 110, 117, 109, 98, 101, 114]⟩ (by kernel_rfl))
  have q13 : (n.toList == [112, 104, 111, 110, 101, 95, 110, 117, 109, 98, 101, 114, 95, 118, 101, 114, 105, 102, 105, 101, 100]) = false := str_nel n [112, 104, 111, 110, 101, 95, 110, 117, 109, 98, 101, 114, 95, 118, 101, 114, 105, 102, 105, 101, 100] (hr.ne ⟨#[112, 104, 111, 110, 101, 95, 110, 117, 109, 98, 101, 114, 95, 118, 101, 114, 105, 102, 105, 101, 100]⟩ (by kernel_rfl))
  have q14 : (n.toList == [112, 105, 99, 116, 117, 114, 101]) = false := str_nel n [112, 105, 99, 116, 117, 114, 101] (hr.ne ⟨#[112, 105, 99, 116, 117, 114, 101]⟩ (by kernel_rfl))
  have q15 : (n.toList == [112, 114, 101, 102, 101, 114, 114, 101, 100, 95, 117, 115, 101, 114, 110, 97, 109, 101]) = false := str_nel n [112, 114, 101, 102, 101, 114, 114, 101, 100, 95, 117, 115, 101, 114, 110, 97, 109, 101] (hr.ne ⟨#[112, 114, 101, 102, 101, 114, 114, 101, 100, 95, 117, 115, 101, 114, 110, 97, 109, 101]⟩ (by kernel_rfl))
  have q16 : (n.toList == [112, 114, 111, 102, 105, 108, 101]) = false := str_nel n [112, 114, 111, 102, 105, 108, 101] (hr.ne ⟨#[112, 114, 111, 102, 105, 108, 101]⟩ (by kernel_rfl))
  have q17 : (n.toList == [115, 117, 98]) = false := str_nel n [115, 117, 98] (hr.ne ⟨#[115, 117, 98]⟩ (by kernel_rfl))
  have q18 : (n.toList == [119, 101, 98, 115, 105, 116, 101]) = false := str_nel n [119, 101, 98, 115, 105, 116, 101] (hr.ne ⟨#[119, 101, 98, 115, 105, 116, 101]⟩ (by kernel_rfl))
  have q19 : (n.toList == [122, 111, 110, 101, 105, 110, 102, 111]) = false := str_nel n [122, 111, 110, 101, 105, 110, 102, 111] (hr.ne ⟨#[122, 111, 110, 101, 105, 110, 102, 111]⟩ (by kernel_rfl))
  have hc : w.cell? ⟨g, 21, none⟩ = some (.map m) := by rw [h.blk.cell]; exact h.map_
  obtain ⟨w', hrun, hH, hB, hK⟩ := h.dropP hr.1 (mty := 169) Tryz.underlying169 Tryz.underlying9 0
  have HR := Lib.hid hrun
  have HH := Lib.hid (And.intro hH (And.intro hB hK))
  clear h hr hrun hH hB hK
  go_enter Tryz.func248, Tryz.ntmps248
  go_wp2_with (at_delete; refine wpList_delete_run rfl (.tmp _) (.tmp _) 169 9 rfl _ _ rfl rfl HR.out ?_)
  go_ret
  exact ⟨rfl, HH.out.1, HH.out.2⟩
set_option maxRecDepth 100000 in
set_option maxHeartbeats 1000000 in
theorem oid_set_rest {w : World} {B g : Nat} {S : List (ByteArray × PV)} (h : Hd 3 w B g S) {n : ByteArray} (hr : Rest 3 n) {v : Value} {x : PV} (hv : PVal w 0 v x) (hx : x.ok) (hBw : B ≤ w.heap.size) :
    Calls Tryz.prog 255 #[.pointer (some ⟨g, 0, none⟩), .string n, v] w (PutP 3 B g (putG n x S) w) := by
  obtain ⟨cs, m, h⟩ := h
  have q0 : (n.toList == [97, 117, 100]) = false := str_nel n [97, 117, 100] (hr.ne ⟨#[97, 117, 100]⟩ (by kernel_rfl))
  have q1 : (n.toList == [101, 109, 97, 105, 108]) = false := str_nel n [101, 109, 97, 105, 108] (hr.ne ⟨#[101, 109, 97, 105, 108]⟩ (by kernel_rfl))
  have q2 : (n.toList == [101, 109, 97, 105, 108, 95, 118, 101, 114, 105, 102, 105, 101, 100]) = false := str_nel n [101, 109, 97, 105, 108, 95, 118, 101, 114, 105, 102, 105, 101, 100] (hr.ne ⟨#[101, 109, 97, 105, 108, 95, 118, 101, 114, 105, 102, 105, 101, 100]⟩ (by kernel_rfl))
  have q3 : (n.toList == [102, 97, 109, 105, 108, 121, 95, 110, 97, 109, 101]) = false := str_nel n [102, 97, 109, 105, 108, 121, 95, 110, 97, 109, 101] (hr.ne ⟨#[102, 97, 109, 105, 108, 121, 95, 110, 97, 109, 101]⟩ (by kernel_rfl))
  have q4 : (n.toList == [103, 101, 110, 100, 101, 114]) = false := str_nel n [103, 101, 110, 100, 101, 114] (hr.ne ⟨#[103, 101, 110, 100, 101, 114]⟩ (by kernel_rfl))
  have q5 : (n.toList == [103, 105, 118, 101, 110, 95, 110, 97, 109, 101]) = false := str_nel n [103, 105, 118, 101, 110, 95, 110, 97, 109, 101] (hr.ne ⟨#[103, 105, 118, 101, 110, 95, 110, 97, 109, 101]⟩ (by kernel_rfl))
  have q6 : (n.toList == [105, 115, 115]) = false := str_nel n [105, 115, 115] (hr.ne ⟨#[105, 115, 115]⟩ (by kernel_rfl))
  have q7 : (n.toList == [106, 116, 105]) = false := str_nel n [106, 116, 105] (hr.ne ⟨#[106, 116, 105]⟩ (by kernel_rfl))
  have q8 : (n.toList == [108, 111, 99, 97, 108, 101]) = false := str_nel n [108, 111, 99, 97, 108, 101] (hr.ne ⟨#[108, 111, 99, 97, 108, 101]⟩ (by kernel_rfl))
  have q9 : (n.toList == [109, 105, 100, 100, 108, 101, 95, 110, 97, 109, 101]) = false := str_nel n [109, 105, 100, 100, 108, 101, 95, 110, 97, 109, 101] (hr.ne ⟨#[109, 105, 100, 100, 108, 101, 95, 110, 97, 109, 101]⟩ (by kernel_rfl))
  have q10 : (n.toList == [110, 97, 109, 101]) = false := str_nel n [110, 97, 109, 101] (hr.ne ⟨#[110, 97, 109, 101]⟩ (by kernel_rfl))
  have q11 : (n.toList == [110, 105, 99, 107, 110, 97, 109, 101]) = false := str_nel n [110, 105, 99, 107, 110, 97, 109, 101] (hr.ne ⟨#[110, 105, 99, 107, 110, 97, 109, 101]⟩ (by kernel_rfl))
  have q12 : (n.toList == [112, 104, 111, 110, 101, 95, 110, 117, 109, 98, 101, 114]) = false := str_nel n [112, 104, 111, 110, 101, 95, 110, 117, 109, 98, 101, 114] (hr.ne ⟨#[112, 104, 111, 110, 101, 95, 110, 117, 109, 98, 101, 114]⟩ (by kernel_rfl))
  have q13 : (n.toList == [112, 104, 111, 110, 101, 95, 110, 117, 109, 98, 101, 114, 95, 118, 101, 114, 105, 102, 105, 101, 100]) = false := str_nel n [112, 104, 111, 110, 101, 95, 110, 117, 109, 98, 101, 114, 95, 118, 101, 114, 105, 102, 105, 101, 100] (hr.ne ⟨#[112, 104, 111, 110, 101, 95, 110, 117, 109, 98, 101, 114, 95, 118, 101, 114, 105, 102, 105, 101, 100]⟩ (by kernel_rfl))
  have q14 : (n.toList == [112, 105, 99, 116, 117, 114, 101]) = false := str_nel n [112, 105, 99, 116, 117, 114, 101] (hr.ne ⟨#[112, 105, 99, 116, 117, 114, 101]⟩ (by kernel_rfl))
  have q15 : (n.toList == [112, 114, 101, 102, 101, 114, 114, 101, 100, 95, 117, 115, 101, 114, 110, 97, 109, 101]) = false := str_nel n [112, 114, 101, 102, 101, 114, 114, 101, 100, 95, 117, 115, 101, 114, 110, 97, 109, 101] (hr.ne ⟨#[112, 114, 101, 102, 101, 114, 114, 101, 100, 95, 117, 115, 101, 114, 110, 97, 109, 101]⟩ (by kernel_rfl))
  have q16 : (n.toList == [112, 114, 111, 102, 105, 108, 101]) = false := str_nel n [112, 114, 111, 102, 105, 108, 101] (hr.ne ⟨#[112, 114, 111, 102, 105, 108, 101]⟩ (by kernel_rfl))
  have q17 : (n.toList == [115, 117, 98]) = false := str_nel n [115, 117, 98] (hr.ne ⟨#[115, 117, 98]⟩ (by kernel_rfl))
  have q18 : (n.toList == [119, 101, 98, 115, 105, 116, 101]) = false := str_nel n [119, 101, 98, 115, 105, 116, 101] (hr.ne ⟨#[119, 101, 98, 115, 105, 116, 101]⟩ (by kernel_rfl))
  have q19 : (n.toList == [122, 111, 110, 101, 105, 110, 102, 111]) = false := str_nel n [122, 111, 110, 101, 105, 110, 102, 111] (hr.ne ⟨#[122, 111, 110, 101, 105, 110, 102, 111]⟩ (by kernel_rfl))
  have hc : w.cell? ⟨g, 21, none⟩ = some (.map m) := by rw [h.blk.cell]; exact h.map_
  cases m with
  | some mm =>
    obtain ⟨w', hup, hH, hg, hm, hK⟩ := h.putP hr.1 hv hx (mty := 169) Tryz.underlying169 Tryz.underlying9
    have hmn : ∀ W : World, Sem.run Tryz.prog (binOp .eql 169 (.map (some mm)) (.map none)) W = .ok (.bool false) W := fun W => by kernel_rfl
    have HH := Lib.hid (And.intro hH (And.intro (below_of_grown hg hm hBw) hK))
    clear h hr hv hx hH hg hm hBw hK
    go_enter Tryz.func255, Tryz.ntmps255
    go_wp2
    go_ret
    exact ⟨rfl, HH.out.1, HH.out.2⟩
  | none =>
    have h1 := h.newmap hBw
    have hg1 := setCell_grown (w.alloc (.map #[] 0)) ⟨g, 21, none⟩ (.map (some w.heap.size))
    have hb1 := h.blk.alloc (.map #[] 0)
    have hf : (w.alloc (.map #[] 0)).frozen? ⟨g, 21, none⟩ = false := hb1.frozen 21
    have hc1 : (w.alloc (.map #[] 0)).cell? ⟨g, 21, none⟩ = some (.map none) := by rw [hb1.cell]; exact h.map_
    have hc2 : ((w.alloc (.map #[] 0)).setCell ⟨g, 21, none⟩ (.map (some w.heap.size))).cell? ⟨g, 21, none⟩ = some (.map (some w.heap.size)) := (h1.blk.cell 21).trans h1.map_
    have hvw := (hv.grown (World.grownBy_alloc w (.map #[] 0) none) (safe_none w)).grown hg1 (safe_blk hb1 (tyK_ne 3))
    obtain ⟨w', hup, hH, hg, hm, hK⟩ := h1.putP hr.1 hvw hx (mty := 169) Tryz.underlying169 Tryz.underlying9
    rw [show mcK 3 = 21 from rfl] at hup
    have hmn : ∀ W : World, Sem.run Tryz.prog (binOp .eql 169 (.map none) (.map none)) W = .ok (.bool true) W := fun W => by kernel_rfl
    have hmm := @run_makeMap Tryz.prog
    have HB : Hid (Below B w w') := Lib.hid (((((Below.refl B w).alloc hBw (.map #[] 0)).setCell (p := ⟨g, 21, none⟩) h.base (.map (some w.heap.size)))).trans (below_of_grown hg hm (Nat.le_trans hBw (by simp [World.setCell]))))
    have HH := Lib.hid hH
    have HKP : Hid (Keep w g w') := Lib.hid (((keep_below (below_alloc' (Below.refl _ _) (.map #[] 0))).trans (keep_g hg1)).trans hK)
    clear hK h h1 hg1 hb1 hr hv hx hH hg hm hBw hvw
    go_enter Tryz.func255, Tryz.ntmps255
    go_wp2
    go_ret
    exact ⟨rfl, HH.out, HB.out, HKP.out⟩
end Go.Proofs.YtapjbdigpleekaaGreat.Mp

/- Set of the one list of tokens: an audience of a text, of a list, of anything else; the conditions are on what lies in memory. -/
set_option linter.unusedVariables false
set_option linter.unusedSimpArgs false
namespace Go.Proofs.YtapjbdigpleekaaGreat.Mp
open Go.RowKit Go.Proofs.YtapjbdigpleekaaGreat.K Go.Proofs.YtapjbdigpleekaaGreat.Cl
/-- The list that an audience is made of. -/
def audL : PV → Option (List ByteArray)
  | .txt s => some [s]
  | .lst l => some l
  | _ => none
def AccO (w : World) (g : Nat) (o : Option (List ByteArray)) (e : Ending) (w' : World) : Prop := match o with
  | some L => e = .returned .nilIface ∧ w.grownBy w' (some g) ∧ ∃ a n c, Blk w' g 203 #[.slice (some a) n c] ∧ w'.ownsRow 0 9 1 (.slice (some a) n c) n (strs L)
  | none => (∃ T u, e = .returned (.iface T u)) ∧ w.grownBy w' (some g)
theorem sl_ne : (203 : Nat) ≠ 9 ∧ (203 : Nat) ≠ 4 := by decide
set_option maxRecDepth 100000 in
set_option maxHeartbeats 1000000 in
theorem Accept_txt (w : World) (g : Nat) (s : ByteArray) (hb : Blk w g 203 #[.slice none 0 0]) :
    Calls Tryz.prog 256 #[.pointer (some ⟨g, 0, none⟩), .iface 9 (.string s)] w (AccO w g (some [s])) := by
  have hb1 : Blk (w.alloc (.cells #[.string s] 9)) g 203 #[.slice none 0 0] := hb.alloc _
  have hc1 : (w.alloc (.cells #[.string s] 9)).cell? ⟨g, 0, none⟩ = some (.slice none 0 0) := by rw [hb1.cell]; rfl
  have hf1 : (w.alloc (.cells #[.string s] 9)).frozen? ⟨g, 0, none⟩ = false := hb1.frozen 0
  have HB1 := Lib.hid hb1
  have hgr : w.grownBy (w.alloc (.cells #[.string s] 9)) (some g) := World.grownBy_alloc w _ _
  have HGR := Lib.hid hgr
  have hsl := own_base (own_lit w 9 1 1 #[.string s] rfl (by unfold maxLen; omega)) (Nat.zero_le _)
  have HSL := Lib.hid hsl
  clear hb1 hb hgr hsl
  have hta := ta_text s
  go_enter Tryz.func256, Tryz.ntmps256
  go_wp2
  go_ret
  have hst := setCell_grown (w.alloc (.cells #[.string s] 9)) ⟨g, 0, none⟩ (.slice (some ⟨w.heap.size, 0, none⟩) 1 1)
  exact ⟨rfl, grown_trans HGR.out hst, ⟨w.heap.size, 0, none⟩, 1, 1, HB1.out.set_ 0 _, own_safe HSL.out hst (safe_blk HB1.out sl_ne)⟩
set_option maxRecDepth 100000 in
set_option maxHeartbeats 1000000 in
theorem Accept_lst (w : World) (g : Nat) (a : Addr) (n c : Nat) (L : List ByteArray) (hb : Blk w g 203 #[.slice none 0 0]) (hl : w.ownsRow 0 9 1 (.slice (some a) n c) n (strs L)) :
    Calls Tryz.prog 256 #[.pointer (some ⟨g, 0, none⟩), .iface 23 (.slice (some a) n c)] w (AccO w g (some L)) := by
  have hc1 : w.cell? ⟨g, 0, none⟩ = some (.slice none 0 0) := by rw [hb.cell]; rfl
  have hf1 : w.frozen? ⟨g, 0, none⟩ = false := hb.frozen 0
  have HB1 := Lib.hid hb
  have HSL := Lib.hid hl
  clear hb hl
  have hta1 := ta_list1 (some a) n c
  have hta2 := ta_list2 (some a) n c
  go_enter Tryz.func256, Tryz.ntmps256
  go_wp2
  go_ret
  have hst := setCell_grown w ⟨g, 0, none⟩ (.slice (some a) n c)
  exact ⟨rfl, hst, a, n, c, HB1.out.set_ 0 _, own_safe HSL.out hst (safe_blk HB1.out sl_ne)⟩
theorem Accept_own (w : World) (g : Nat) (v : Value) (x : PV) (hv : PVal w 0 v x) (hb : Blk w g 203 #[.slice none 0 0]) :
    Calls Tryz.prog 256 #[.pointer (some ⟨g, 0, none⟩), v] w (AccO w g (audL x)) := by
  cases x with
  | txt s => rw [show v = _ from hv]; exact Accept_txt w g s hb
  | tru b =>
    rw [show v = _ from hv]
    refine (Accept_other w g _ (.inr (.inl ⟨_, rfl⟩))).mono ?_
    rintro e w' ⟨h, hB⟩
    exact ⟨h, grown_of_below hB (Nat.le_refl _) _⟩
  | num z =>
    rw [show v = _ from hv]
    refine (Accept_other w g _ (.inr (.inr ⟨_, rfl⟩))).mono ?_
    rintro e w' ⟨h, hB⟩
    exact ⟨h, grown_of_below hB (Nat.le_refl _) _⟩
  | lst l =>
    obtain ⟨a, n, c, rfl, ho⟩ := hv
    exact Accept_lst w g a n c l hb ho
set_option maxRecDepth 100000 in
set_option maxHeartbeats 2000000 in
theorem jwt_set_aud {w : World} {B g : Nat} {S : List (ByteArray × PV)} (h : Hd 2 w B g S) {v : Value} {x : PV} (hv : PVal w 0 v x) (hx : ∀ L, audL x = some L → L.length ≤ 100000) (hBw : B ≤ w.heap.size) :
    Calls Tryz.prog 271 #[.pointer (some ⟨g, 0, none⟩), .string ⟨#[97, 117, 100]⟩, v] w (fun e w' => match audL x with | some L => PutP 2 B g (putG ⟨#[97, 117, 100]⟩ (.lst L) S) w e w' | none => ErrP 2 B g S w e w') := by
  have HA := Lib.hid (Accept_own (w.alloc (.cells #[.slice none 0 0] 203)) w.heap.size v x (hv.grown (World.grownBy_alloc w _ none) (safe_none w)) (Blk.new w _ _))
  have HH := Lib.hid (And.intro h hBw)
  have HX := Lib.hid hx
  have HE := Lib.hid (fun W s => errNew_calls W s)
  clear h hBw hv hx
  obtain ⟨o, ho⟩ : ∃ o, o = audL x := ⟨_, rfl⟩
  rw [← ho] at HA ⊢
  have HO := Lib.hid ho
  clear ho
  cases o with
  | some L =>
    go_enter Tryz.func271, Tryz.ntmps271
    go_wp2_with fail
    refine HA.out.mono ?_
    rintro e w1 ⟨rfl, hg1, a1, n1, c1, hb1, ho1⟩
    have hc1 : w1.cell? ⟨w.heap.size, 0, none⟩ = some (.slice (some a1) n1 c1) := by rw [hb1.cell]; rfl
    have hbw : Below w.heap.size w w1 := ((Below.refl w.heap.size w).alloc (Nat.le_refl _) (.cells #[.slice none 0 0] 203)).grown hg1 (by simp) (by intro j hj; cases hj; exact Nat.le_refl _)
    obtain ⟨cs, m, hp⟩ := HH.out.1.below hbw
    have HBW := Lib.hid hbw
    have HO1 := Lib.hid ho1
    clear hbw hg1 hb1 HA ho1
    obtain ⟨u, hu, _⟩ := hp.fld _ (List.mem_of_getElem? (show (fldK 2)[0]? = some (⟨#[97, 117, 100]⟩, 1, 2) from rfl))
    have hc2 : w1.cell? ⟨g, 1, none⟩ = some u := by rw [hp.blk.cell]; exact hu
    have hf2 : w1.frozen? ⟨g, 1, none⟩ = false := hp.blk.frozen 1
    have HP := Lib.hid hp
    clear hp hu
    go_wp2
    go_ret
    have hst := setCell_grown w1 ⟨g, 1, none⟩ (.slice (some a1) n1 c1)
    exact ⟨rfl, HP.out.put (List.mem_of_getElem? (show (fldK 2)[0]? = some (⟨#[97, 117, 100]⟩, 1, 2) from rfl)) (HP.out.blk.set_ 1 _) hst (.inr ⟨L, a1, n1, c1, rfl, rfl, own_safe HO1.out hst HP.out.safe⟩) (HX.out L HO.out.symm), (HBW.out.mono HH.out.2).setCell (p := ⟨g, 1, none⟩) HP.out.base _, (keep_below HBW.out).trans (keep_g hst)⟩
  | none =>
    go_enter Tryz.func271, Tryz.ntmps271
    go_wp2_with fail
    refine HA.out.mono ?_
    rintro e w1 ⟨⟨T, u, rfl⟩, hg1⟩
    have hbw : Below w.heap.size w w1 := ((Below.refl w.heap.size w).alloc (Nat.le_refl _) (.cells #[.slice none 0 0] 203)).grown hg1 (by simp) (by intro j hj; cases hj; exact Nat.le_refl _)
    have HBW := Lib.hid hbw
    clear hbw hg1 HA
    go_wp2_with fail
    refine (HE.out _ _).mono ?_
    rintro e w2 ⟨⟨T2, u2, rfl⟩, hB2⟩
    have HB2 := Lib.hid (K.below_then HBW.out hB2)
    clear hB2
    go_wp2
    go_ret
    exact ⟨⟨_, _, rfl⟩, HH.out.1.below HB2.out, HB2.out.mono HH.out.2, keep_below HB2.out⟩
set_option maxRecDepth 100000 in
set_option maxHeartbeats 2000000 in
theorem oid_set_aud {w : World} {B g : Nat} {S : List (ByteArray × PV)} (h : Hd 3 w B g S) {v : Value} {x : PV} (hv : PVal w 0 v x) (hx : ∀ L, audL x = some L → L.length ≤ 100000) (hBw : B ≤ w.heap.size) :
    Calls Tryz.prog 255 #[.pointer (some ⟨g, 0, none⟩), .string ⟨#[97, 117, 100]⟩, v] w (fun e w' => match audL x with | some L => PutP 3 B g (putG ⟨#[97, 117, 100]⟩ (.lst L) S) w e w' | none => ErrP 3 B g S w e w') := by
  have HA := Lib.hid (Accept_own (w.alloc (.cells #[.slice none 0 0] 203)) w.heap.size v x (hv.grown (World.grownBy_alloc w _ none) (safe_none w)) (Blk.new w _ _))
  have HH := Lib.hid (And.intro h hBw)
  have HX := Lib.hid hx
  have HE := Lib.hid (fun W s => errNew_calls W s)
  clear h hBw hv hx
  obtain ⟨o, ho⟩ : ∃ o, o = audL x := ⟨_, rfl⟩
  rw [← ho] at HA ⊢
  have HO := Lib.hid ho
  clear ho
  cases o with
  | some L =>
    go_enter Tryz.func255, Tryz.ntmps255
    go_wp2_with fail
    refine HA.out.mono ?_
    rintro e w1 ⟨rfl, hg1, a1, n1, c1, hb1, ho1⟩
    have hc1 : w1.cell? ⟨w.heap.size, 0, none⟩ = some (.slice (some a1) n1 c1) := by rw [hb1.cell]; rfl
    have hbw : Below w.heap.size w w1 := ((Below.refl w.heap.size w).alloc (Nat.le_refl _) (.cells #[.slice none 0 0] 203)).grown hg1 (by simp) (by intro j hj; cases hj; exact Nat.le_refl _)
    obtain ⟨cs, m, hp⟩ := HH.out.1.below hbw
    have HBW := Lib.hid hbw
    have HO1 := Lib.hid ho1
    clear hbw hg1 hb1 HA ho1
    obtain ⟨u, hu, _⟩ := hp.fld _ (List.mem_of_getElem? (show (fldK 3)[0]? = some (⟨#[97, 117, 100]⟩, 1, 2) from rfl))
    have hc2 : w1.cell? ⟨g, 1, none⟩ = some u := by rw [hp.blk.cell]; exact hu
    have hf2 : w1.frozen? ⟨g, 1, none⟩ = false := hp.blk.frozen 1
    have HP := Lib.hid hp
    clear hp hu
    go_wp2
    go_ret
    have hst := setCell_grown w1 ⟨g, 1, none⟩ (.slice (some a1) n1 c1)
    exact ⟨rfl, HP.out.put (List.mem_of_getElem? (show (fldK 3)[0]? = some (⟨#[97, 117, 100]⟩, 1, 2) from rfl)) (HP.out.blk.set_ 1 _) hst (.inr ⟨L, a1, n1, c1, rfl, rfl, own_safe HO1.out hst HP.out.safe⟩) (HX.out L HO.out.symm), (HBW.out.mono HH.out.2).setCell (p := ⟨g, 1, none⟩) HP.out.base _, (keep_below HBW.out).trans (keep_g hst)⟩
  | none =>
    go_enter Tryz.func255, Tryz.ntmps255
    go_wp2_with fail
    refine HA.out.mono ?_
    rintro e w1 ⟨⟨T, u, rfl⟩, hg1⟩
    have hbw : Below w.heap.size w w1 := ((Below.refl w.heap.size w).alloc (Nat.le_refl _) (.cells #[.slice none 0 0] 203)).grown hg1 (by simp) (by intro j hj; cases hj; exact Nat.le_refl _)
    have HBW := Lib.hid hbw
    clear hbw hg1 HA
    go_wp2_with fail
    refine (HE.out _ _).mono ?_
    rintro e w2 ⟨⟨T2, u2, rfl⟩, hB2⟩
    have HB2 := Lib.hid (K.below_then HBW.out hB2)
    clear hB2
    go_wp2
    go_ret
    exact ⟨⟨_, _, rfl⟩, HH.out.1.below HB2.out, HB2.out.mono HH.out.2, keep_below HB2.out⟩
end Go.Proofs.YtapjbdigpleekaaGreat.Mp

/- Set of the one list of headers; the conditions are on what lies in memory. -/
set_option linter.unusedVariables false
set_option linter.unusedSimpArgs false
namespace Go.Proofs.YtapjbdigpleekaaGreat.Mp
open Go.RowKit Go.Proofs.YtapjbdigpleekaaGreat.K Go.Proofs.YtapjbdigpleekaaGreat.Cl
theorem grown_old {w w1 w2 : World} {g : Option Nat} {r : Nat} (h : w.grownBy w1 g) (h' : w1.grownBy w2 (some r)) (hr : w.heap.size ≤ r) : w.grownBy w2 g :=
  ⟨h'.os.trans h.os, h'.tape.trans h.tape, h'.output.trans h.output, Nat.le_trans h.size h'.size, fun i hi hne => (h'.block i (Nat.lt_of_lt_of_le hi h.size) (fun e => by injection e with e; omega)).trans (h.block i hi hne)⟩
theorem splice_all (n : Nat) (z : Value) (xs : List Value) (h : xs.length = n) : splice (List.replicate n z) 0 (xs.take n) = xs := by
  simp [splice, h, List.take_of_length_le]
theorem crit_pre {k : Nat} {w w2 : World} {B g : Nat} {S : List (ByteArray × PV)} {cs : Array Value} {m : Option Nat} (h : Parts k w B g S cs m) {a : Addr} {n c : Nat} {L : List ByteArray} (ho : w.ownsRow 0 9 1 (.slice (some a) n c) n (strs L))
    (hb : Blk w2 w.heap.size 9 (Array.replicate n (.string ByteArray.empty))) (hB : Below w.heap.size w w2) {i : Nat} {u : Value} (hu : cs[i]? = some u) (v : Value) :
    w2.cell? ⟨g, i, none⟩ = some u ∧ w2.frozen? ⟨g, i, none⟩ = false ∧ Blk (w2.setCell ⟨g, i, none⟩ v) w.heap.size 9 (List.replicate n (.string ByteArray.empty)).toArray ∧ Reads (w2.setCell ⟨g, i, none⟩ v) 1 (some a) n (strs L) ∧
      Blk (w2.setCell ⟨g, i, none⟩ v) g (tyK k) (cs.setIfInBounds i v) ∧ w.grownBy (w2.setCell ⟨g, i, none⟩ v) (some g) := by
  have hb2 := h.blk.below hB h.blk.lt
  have hst := setCell_grown w2 ⟨g, i, none⟩ v
  have hlt := h.blk.lt
  have ho2 := own_safe (own_safe ho (grown_of_below hB (Nat.le_refl _) none) (safe_none w)) hst (safe_blk hb2 (tyK_ne k))
  refine ⟨by rw [hb2.cell]; exact hu, hb2.frozen i, ?_, Reads.of_own ho2, hb2.set_ i v, grown_trans (grown_of_below hB (Nat.le_refl _) _) hst⟩
  rw [List.toArray_replicate]
  exact hb.far (by show w.heap.size ≠ g; omega) v
set_option maxRecDepth 100000 in
set_option maxHeartbeats 2000000 in
theorem jws_set_crit_lst {w : World} {B g : Nat} {S : List (ByteArray × PV)} (h : Hd 0 w B g S) {a : Addr} {n c : Nat} {L : List ByteArray} (ho : w.ownsRow 0 9 1 (.slice (some a) n c) n (strs L)) (hL : L.length ≤ 100000) (hBw : B ≤ w.heap.size) :
    Calls Tryz.prog 184 #[.pointer (some ⟨g, 0, none⟩), .string ⟨#[99, 114, 105, 116]⟩, .iface 23 (.slice (some a) n c)] w (PutP 0 B g (putG ⟨#[99, 114, 105, 116]⟩ (.lst L) S) w) := by
  obtain ⟨cs, m, hp⟩ := h
  have hn : n = L.length := by have := ho.1; rw [strs_len] at this; omega
  have hn1 : n ≤ 100000 := by omega
  have HN := Lib.hid hn
  obtain ⟨u, hu, _⟩ := hp.fld _ (List.mem_of_getElem? (show (fldK 0)[1]? = some (⟨#[99, 114, 105, 116]⟩, 3, 2) from rfl))
  obtain ⟨i0, hi, hz0, hz1, hz2⟩ := info_parts info_str
  have HI := Lib.hid (And.intro hi (And.intro hz0 (And.intro hz1 hz2)))
  have HPRE := Lib.hid (fun w2 hb hB v => crit_pre (w2 := w2) hp ho hb hB hu v)
  have HP := Lib.hid (And.intro hp hBw)
  have HL := Lib.hid hL
  have HSP := Lib.hid (splice_all n (.string ByteArray.empty) (strs L) (by rw [strs_len, hn]))
  have hta := ta_list2 (some a) n c
  have hnil := fun W : World => Lib.run_eql_slice_nil (P := Tryz.prog) W 23 9 (some a) n c 0 0 Tryz.underlying23
  clear hn hu hi hz0 hz1 hz2 hp hBw ho hL
  go_enter Tryz.func184, Tryz.ntmps184
  go_wp2_with (first
    | (at_make; refine wpList_make_blk rfl _ _ 23 rfl 9 i0 (.string ByteArray.empty) Tryz.underlying23 HI.out.1 HI.out.2.1 HI.out.2.2.1 rfl .i64 .i64 _ _ n rfl rfl rfl rfl (by rw [HI.out.2.2.2]; omega) (by unfold maxLen; omega) ?_; intro w2 hb2 hB2 hs2; have HP2 := Lib.hid (HPRE.out w2 hb2 hB2 (.slice (some ⟨w.heap.size, 0, none⟩) n n)); have k1 := HP2.out.1; have k2 := HP2.out.2.1; have HB2 := Lib.hid hB2; clear hb2 hB2 hs2)
    | (refine wpList_copy_only rfl _ _ _ _ rfl 9 Tryz.underlying23 (by kernel_rfl) (some ⟨w.heap.size, 0, none⟩) (some a) n n n c rfl rfl w.heap.size 0 (List.replicate n (Value.string ByteArray.empty)) 9 HP2.out.2.2.1 (strs L) HP2.out.2.2.2.1 (fun _ => rfl) (by simp) (strs_one _) (strs L) HSP.out ?_; intro w4 hb4 hg4 hs4; have HB4 := Lib.hid (And.intro hb4 hg4); clear hb4 hg4 hs4))
  go_ret
  have hg := grown_old HP2.out.2.2.2.2.2 HB4.out.2 (Nat.le_refl _)
  have hlt := HP.out.1.blk.lt
  exact ⟨rfl, HP.out.1.put (List.mem_of_getElem? (show (fldK 0)[1]? = some (⟨#[99, 114, 105, 116]⟩, 3, 2) from rfl)) (HP2.out.2.2.2.2.1.grown HB4.out.2 (fun e => by injection e with e; omega)) hg
    (.inr ⟨L, ⟨w.heap.size, 0, none⟩, n, n, rfl, rfl, by have := HB4.out.1.own 0 1 n (Nat.zero_le _) (by simp [strs, HN.out]) (by unfold maxLen; omega); exact this⟩) HL.out, below_of_grown hg HP.out.1.base HP.out.2, keep_g hg⟩
set_option maxRecDepth 100000 in
set_option maxHeartbeats 2000000 in
theorem jwe_set_crit_lst {w : World} {B g : Nat} {S : List (ByteArray × PV)} (h : Hd 1 w B g S) {a : Addr} {n c : Nat} {L : List ByteArray} (ho : w.ownsRow 0 9 1 (.slice (some a) n c) n (strs L)) (hL : L.length ≤ 100000) (hBw : B ≤ w.heap.size) :
    Calls Tryz.prog 220 #[.pointer (some ⟨g, 0, none⟩), .string ⟨#[99, 114, 105, 116]⟩, .iface 23 (.slice (some a) n c)] w (PutP 1 B g (putG ⟨#[99, 114, 105, 116]⟩ (.lst L) S) w) := by
  obtain ⟨cs, m, hp⟩ := h
  have hn : n = L.length := by have := ho.1; rw [strs_len] at this; omega
  have hn1 : n ≤ 100000 := by omega
  have HN := Lib.hid hn
  obtain ⟨u, hu, _⟩ := hp.fld _ (List.mem_of_getElem? (show (fldK 1)[1]? = some (⟨#[99, 114, 105, 116]⟩, 6, 2) from rfl))
  obtain ⟨i0, hi, hz0, hz1, hz2⟩ := info_parts info_str
  have HI := Lib.hid (And.intro hi (And.intro hz0 (And.intro hz1 hz2)))
  have HPRE := Lib.hid (fun w2 hb hB v => crit_pre (w2 := w2) hp ho hb hB hu v)
  have HP := Lib.hid (And.intro hp hBw)
  have HL := Lib.hid hL
  have HSP := Lib.hid (splice_all n (.string ByteArray.empty) (strs L) (by rw [strs_len, hn]))
  have hta := ta_list2 (some a) n c
  have hnil := fun W : World => Lib.run_eql_slice_nil (P := Tryz.prog) W 23 9 (some a) n c 0 0 Tryz.underlying23
  clear hn hu hi hz0 hz1 hz2 hp hBw ho hL
  go_enter Tryz.func220, Tryz.ntmps220
  go_wp2_with (first
    | (at_make; refine wpList_make_blk rfl _ _ 23 rfl 9 i0 (.string ByteArray.empty) Tryz.underlying23 HI.out.1 HI.out.2.1 HI.out.2.2.1 rfl .i64 .i64 _ _ n rfl rfl rfl rfl (by rw [HI.out.2.2.2]; omega) (by unfold maxLen; omega) ?_; intro w2 hb2 hB2 hs2; have HP2 := Lib.hid (HPRE.out w2 hb2 hB2 (.slice (some ⟨w.heap.size, 0, none⟩) n n)); have k1 := HP2.out.1; have k2 := HP2.out.2.1; have HB2 := Lib.hid hB2; clear hb2 hB2 hs2)
    | (refine wpList_copy_only rfl _ _ _ _ rfl 9 Tryz.underlying23 (by kernel_rfl) (some ⟨w.heap.size, 0, none⟩) (some a) n n n c rfl rfl w.heap.size 0 (List.replicate n (Value.string ByteArray.empty)) 9 HP2.out.2.2.1 (strs L) HP2.out.2.2.2.1 (fun _ => rfl) (by simp) (strs_one _) (strs L) HSP.out ?_; intro w4 hb4 hg4 hs4; have HB4 := Lib.hid (And.intro hb4 hg4); clear hb4 hg4 hs4))
  go_ret
  have hg := grown_old HP2.out.2.2.2.2.2 HB4.out.2 (Nat.le_refl _)
  have hlt := HP.out.1.blk.lt
  exact ⟨rfl, HP.out.1.put (List.mem_of_getElem? (show (fldK 1)[1]? = some (⟨#[99, 114, 105, 116]⟩, 6, 2) from rfl)) (HP2.out.2.2.2.2.1.grown HB4.out.2 (fun e => by injection e with e; omega)) hg
    (.inr ⟨L, ⟨w.heap.size, 0, none⟩, n, n, rfl, rfl, by have := HB4.out.1.own 0 1 n (Nat.zero_le _) (by simp [strs, HN.out]) (by unfold maxLen; omega); exact this⟩) HL.out, below_of_grown hg HP.out.1.base HP.out.2, keep_g hg⟩
set_option maxRecDepth 100000 in
set_option maxHeartbeats 1000000 in
theorem jws_err_crit {w : World} {B g : Nat} {S : List (ByteArray × PV)} (h : Hd 0 w B g S) {v : Value} (hta : NoLst v) (hBw : B ≤ w.heap.size) :
    Calls Tryz.prog 184 #[.pointer (some ⟨g, 0, none⟩), .string ⟨#[99, 114, 105, 116]⟩, v] w (ErrP 0 B g S w) := by
  unfold NoLst at hta
  have HE := Lib.hid (fun W s => errNew_calls W s)
  have HH := Lib.hid (And.intro h hBw)
  clear h hBw
  go_enter Tryz.func184, Tryz.ntmps184
  go_wp2_with fail
  refine (HE.out _ _).mono ?_
  rintro e w2 ⟨⟨T, u, rfl⟩, hB2⟩
  have HB2 := Lib.hid hB2
  clear hB2
  go_wp2
  go_ret
  exact ⟨⟨_, _, rfl⟩, HH.out.1.below HB2.out, HB2.out.mono HH.out.2, keep_below HB2.out⟩
set_option maxRecDepth 100000 in
set_option maxHeartbeats 1000000 in
theorem jwe_err_crit {w : World} {B g : Nat} {S : List (ByteArray × PV)} (h : Hd 1 w B g S) {v : Value} (hta : NoLst v) (hBw : B ≤ w.heap.size) :
    Calls Tryz.prog 220 #[.pointer (some ⟨g, 0, none⟩), .string ⟨#[99, 114, 105, 116]⟩, v] w (ErrP 1 B g S w) := by
  unfold NoLst at hta
  have HE := Lib.hid (fun W s => errNew_calls W s)
  have HH := Lib.hid (And.intro h hBw)
  clear h hBw
  go_enter Tryz.func220, Tryz.ntmps220
  go_wp2_with fail
  refine (HE.out _ _).mono ?_
  rintro e w2 ⟨⟨T, u, rfl⟩, hB2⟩
  have HB2 := Lib.hid hB2
  clear hB2
  go_wp2
  go_ret
  exact ⟨⟨_, _, rfl⟩, HH.out.1.below HB2.out, HB2.out.mono HH.out.2, keep_below HB2.out⟩
end Go.Proofs.YtapjbdigpleekaaGreat.Mp
