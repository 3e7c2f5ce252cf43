import Derived.Test.YtapjbdigpleekaaGreatGD
import Derived.Test.YtapjbdigpleekaaGreatGA
import Derived.Lib.LazyBuf
/- Get of any name that is there, into a variable of the type any; the conditions are on what lies in memory. Printed by gen_mpget.py. -/
set_option linter.unusedVariables false
set_option linter.unusedSimpArgs false
namespace Go.Proofs.YtapjbdigpleekaaGreat.Mp
open Go.RowKit Go.Proofs.YtapjbdigpleekaaGreat.K Go.Proofs.YtapjbdigpleekaaGreat.Cl
theorem ta_any (d : Nat) (W : World) : Sem.run Tryz.prog (Instr.typeAssert (.iface 163 (.pointer (some ⟨d, 0, none⟩))) 20 163 true) W = .ok (.tuple #[.pointer (some ⟨d, 0, none⟩), .bool true]) W := by kernel_rfl
/-- The value lies in the variable, nothing else turns. -/
def GetP (d : Nat) (x : PV) (w : World) (e : Ending) (w' : World) : Prop := e = .returned .nilIface ∧ ∃ v, Blk w' d 20 #[v] ∧ PVal w' 0 v x ∧ w.grownBy w' (some d)
def ZzP (d : Nat) (v : Value) (w : World) (e : Ending) (w' : World) : Prop := e = .returned .nilIface ∧ w' = w.setCell ⟨d, 0, none⟩ v
theorem PVal.form {w : World} {B : Nat} {v : Value} {x : PV} (h : PVal w B v x) : ∃ T u, v = .iface T u := by
  cases x with
  | txt s => exact ⟨_, _, h⟩
  | tru s => exact ⟨_, _, h⟩
  | num s => exact ⟨_, _, h⟩
  | lst s =>
    obtain ⟨a, n, c, e, _⟩ := h
    exact ⟨_, _, e⟩
theorem any_ne : (20 : Nat) ≠ 9 ∧ (20 : Nat) ≠ 4 := by decide
theorem get_end {w : World} {d : Nat} {u v : Value} {x : PV} (hd : Blk w d 20 #[u]) (hv : PVal w 0 v x) : GetP d x w (.returned .nilIface) (w.setCell ⟨d, 0, none⟩ v) :=
  ⟨rfl, v, hd.set_ 0 v, hv.grown (setCell_grown w ⟨d, 0, none⟩ v) (safe_blk hd any_ne), setCell_grown w ⟨d, 0, none⟩ v⟩
theorem jws_zz (w : World) (d : Nat) (u : Value) (T : TypeId) (v : Value) (hd : Blk w d 20 #[u]) : Calls Tryz.prog 182 #[.iface 163 (.pointer (some ⟨d, 0, none⟩)), .iface T v] w (ZzP d (.iface T v) w) := by
  have hta := ta_any d
  have hc : w.cell? ⟨d, 0, none⟩ = some u := by rw [hd.cell]; rfl
  have hf := hd.frozen 0
  clear hd
  go_enter Tryz.func182, Tryz.ntmps182
  go_wp2
  go_ret
  exact ⟨rfl, rfl⟩
set_option maxRecDepth 100000 in
theorem jws_Get_rest {w : World} {B g : Nat} {S : List (ByteArray × PV)} (h : Hd 0 w B g S) {n : ByteArray} (hr : Rest 0 n) {x : PV} (hx : lookG S n = some x) {d : Nat} {u : Value} (hd : Blk w d 20 #[u]) :
    Calls Tryz.prog 169 #[.pointer (some ⟨g, 0, none⟩), .string n, .iface 163 (.pointer (some ⟨d, 0, none⟩))] w (GetP d x w) := by
  obtain ⟨cs, m, h⟩ := h
  have q0 : (n.toList == [97, 108, 103]) = false := str_nel n [97, 108, 103] (hr.ne ⟨#[97, 108, 103]⟩ (by kernel_rfl))
  have q1 : (n.toList == [98, 54, 52]) = false := str_nel n [98, 54, 52] (hr.ne ⟨#[98, 54, 52]⟩ (by kernel_rfl))
  have q2 : (n.toList == [99, 116, 121]) = false := str_nel n [99, 116, 121] (hr.ne ⟨#[99, 116, 121]⟩ (by kernel_rfl))
  have q3 : (n.toList == [99, 114, 105, 116]) = false := str_nel n [99, 114, 105, 116] (hr.ne ⟨#[99, 114, 105, 116]⟩ (by kernel_rfl))
  have q4 : (n.toList == [106, 107, 117]) = false := str_nel n [106, 107, 117] (hr.ne ⟨#[106, 107, 117]⟩ (by kernel_rfl))
  have q5 : (n.toList == [107, 105, 100]) = false := str_nel n [107, 105, 100] (hr.ne ⟨#[107, 105, 100]⟩ (by kernel_rfl))
  have q6 : (n.toList == [116, 121, 112]) = false := str_nel n [116, 121, 112] (hr.ne ⟨#[116, 121, 112]⟩ (by kernel_rfl))
  have q7 : (n.toList == [120, 53, 116]) = false := str_nel n [120, 53, 116] (hr.ne ⟨#[120, 53, 116]⟩ (by kernel_rfl))
  have q8 : (n.toList == [120, 53, 116, 35, 83, 50, 53, 54]) = false := str_nel n [120, 53, 116, 35, 83, 50, 53, 54] (hr.ne ⟨#[120, 53, 116, 35, 83, 50, 53, 54]⟩ (by kernel_rfl))
  have q9 : (n.toList == [120, 53, 117]) = false := str_nel n [120, 53, 117] (hr.ne ⟨#[120, 53, 117]⟩ (by kernel_rfl))
  have hc : w.cell? ⟨g, 10, none⟩ = some (.map m) := by rw [h.blk.cell]; exact h.map_
  obtain ⟨v, hv, hpv⟩ := h.look hr.1 (mty := 169) Tryz.underlying169 Tryz.underlying9 .nilIface zero_any
  have hlk := hv w rfl
  rw [hx, Option.isSome_some] at hlk
  have hpx := hpv x hx
  obtain ⟨T, vv, rfl⟩ := hpx.form
  have HV := Lib.hid (And.intro hd hpx)
  have HZ := Lib.hid (jws_zz w d u T vv hd)
  clear hv h hr hx hd hpv hpx
  go_enter Tryz.func169, Tryz.ntmps169
  go_wp2_with fail
  refine HZ.out.mono ?_
  rintro e w1 ⟨rfl, rfl⟩
  go_wp2
  go_ret
  exact get_end HV.out.1 HV.out.2
theorem jwe_zz (w : World) (d : Nat) (u : Value) (T : TypeId) (v : Value) (hd : Blk w d 20 #[u]) : Calls Tryz.prog 219 #[.iface 163 (.pointer (some ⟨d, 0, none⟩)), .iface T v] w (ZzP d (.iface T v) w) := by
  have hta := ta_any d
  have hc : w.cell? ⟨d, 0, none⟩ = some u := by rw [hd.cell]; rfl
  have hf := hd.frozen 0
  clear hd
  go_enter Tryz.func219, Tryz.ntmps219
  go_wp2
  go_ret
  exact ⟨rfl, rfl⟩
set_option maxRecDepth 100000 in
theorem jwe_Get_rest {w : World} {B g : Nat} {S : List (ByteArray × PV)} (h : Hd 1 w B g S) {n : ByteArray} (hr : Rest 1 n) {x : PV} (hx : lookG S n = some x) {d : Nat} {u : Value} (hd : Blk w d 20 #[u]) :
    Calls Tryz.prog 206 #[.pointer (some ⟨g, 0, none⟩), .string n, .iface 163 (.pointer (some ⟨d, 0, none⟩))] w (GetP d x w) := by
  obtain ⟨cs, m, h⟩ := h
  have q0 : (n.toList == [97, 112, 117]) = false := str_nel n [97, 112, 117] (hr.ne ⟨#[97, 112, 117]⟩ (by kernel_rfl))
  have q1 : (n.toList == [97, 112, 118]) = false := str_nel n [97, 112, 118] (hr.ne ⟨#[97, 112, 118]⟩ (by kernel_rfl))
  have q2 : (n.toList == [97, 108, 103]) = false := str_nel n [97, 108, 103] (hr.ne ⟨#[97, 108, 103]⟩ (by kernel_rfl))
  have q3 : (n.toList == [122, 105, 112]) = false := str_nel n [122, 105, 112] (hr.ne ⟨#[122, 105, 112]⟩ (by kernel_rfl))
  have q4 : (n.toList == [101, 110, 99]) = false := str_nel n [101, 110, 99] (hr.ne ⟨#[101, 110, 99]⟩ (by kernel_rfl))
  have q5 : (n.toList == [99, 116, 121]) = false := str_nel n [99, 116, 121] (hr.ne ⟨#[99, 116, 121]⟩ (by kernel_rfl))
  have q6 : (n.toList == [99, 114, 105, 116]) = false := str_nel n [99, 114, 105, 116] (hr.ne ⟨#[99, 114, 105, 116]⟩ (by kernel_rfl))
  have q7 : (n.toList == [106, 107, 117]) = false := str_nel n [106, 107, 117] (hr.ne ⟨#[106, 107, 117]⟩ (by kernel_rfl))
  have q8 : (n.toList == [107, 105, 100]) = false := str_nel n [107, 105, 100] (hr.ne ⟨#[107, 105, 100]⟩ (by kernel_rfl))
  have q9 : (n.toList == [116, 121, 112]) = false := str_nel n [116, 121, 112] (hr.ne ⟨#[116, 121, 112]⟩ (by kernel_rfl))
  have q10 : (n.toList == [120, 53, 116]) = false := str_nel n [120, 53, 116] (hr.ne ⟨#[120, 53, 116]⟩ (by kernel_rfl))
  have q11 : (n.toList == [120, 53, 116, 35, 83, 50, 53, 54]) = false := str_nel n [120, 53, 116, 35, 83, 50, 53, 54] (hr.ne ⟨#[120, 53, 116, 35, 83, 50, 53, 54]⟩ (by kernel_rfl))
  have q12 : (n.toList == [120, 53, 117]) = false := str_nel n [120, 53, 117] (hr.ne ⟨#[120, 53, 117]⟩ (by kernel_rfl))
  have hc : w.cell? ⟨g, 13, none⟩ = some (.map m) := by rw [h.blk.cell]; exact h.map_
  obtain ⟨v, hv, hpv⟩ := h.look hr.1 (mty := 169) Tryz.underlying169 Tryz.underlying9 .nilIface zero_any
  have hlk := hv w rfl
  rw [hx, Option.isSome_some] at hlk
  have hpx := hpv x hx
  obtain ⟨T, vv, rfl⟩ := hpx.form
  have HV := Lib.hid (And.intro hd hpx)
  have HZ := Lib.hid (jwe_zz w d u T vv hd)
  clear hv h hr hx hd hpv hpx
  go_enter Tryz.func206, Tryz.ntmps206
  go_wp2_with fail
  refine HZ.out.mono ?_
  rintro e w1 ⟨rfl, rfl⟩
  go_wp2
  go_ret
  exact get_end HV.out.1 HV.out.2
theorem jwt_zz (w : World) (d : Nat) (u : Value) (T : TypeId) (v : Value) (hd : Blk w d 20 #[u]) : Calls Tryz.prog 270 #[.iface 163 (.pointer (some ⟨d, 0, none⟩)), .iface T v] w (ZzP d (.iface T v) w) := by
  have hta := ta_any d
  have hc : w.cell? ⟨d, 0, none⟩ = some u := by rw [hd.cell]; rfl
  have hf := hd.frozen 0
  clear hd
  go_enter Tryz.func270, Tryz.ntmps270
  go_wp2
  go_ret
  exact ⟨rfl, rfl⟩
set_option maxRecDepth 100000 in
theorem jwt_Get_rest {w : World} {B g : Nat} {S : List (ByteArray × PV)} (h : Hd 2 w B g S) {n : ByteArray} (hr : Rest 2 n) {x : PV} (hx : lookG S n = some x) {d : Nat} {u : Value} (hd : Blk w d 20 #[u]) :
    Calls Tryz.prog 260 #[.pointer (some ⟨g, 0, none⟩), .string n, .iface 163 (.pointer (some ⟨d, 0, none⟩))] w (GetP d x w) := by
  obtain ⟨cs, m, h⟩ := h
  have q0 : (n.toList == [97, 117, 100]) = false := str_nel n [97, 117, 100] (hr.ne ⟨#[97, 117, 100]⟩ (by kernel_rfl))
  have q1 : (n.toList == [105, 115, 115]) = false := str_nel n [105, 115, 115] (hr.ne ⟨#[105, 115, 115]⟩ (by kernel_rfl))
  have q2 : (n.toList == [106, 116, 105]) = false := str_nel n [106, 116, 105] (hr.ne ⟨#[106, 116, 105]⟩ (by kernel_rfl))
  have q3 : (n.toList == [115, 117, 98]) = false := str_nel n [115, 117, 98] (hr.ne ⟨#[115, 117, 98]⟩ (by kernel_rfl))
  have hc : w.cell? ⟨g, 5, none⟩ = some (.map m) := by rw [h.blk.cell]; exact h.map_
  obtain ⟨v, hv, hpv⟩ := h.look hr.1 (mty := 169) Tryz.underlying169 Tryz.underlying9 .nilIface zero_any
  have hlk := hv w rfl
  rw [hx, Option.isSome_some] at hlk
  have hpx := hpv x hx
  obtain ⟨T, vv, rfl⟩ := hpx.form
  have HV := Lib.hid (And.intro hd hpx)
  have HZ := Lib.hid (jwt_zz w d u T vv hd)
  clear hv h hr hx hd hpv hpx
  go_enter Tryz.func260, Tryz.ntmps260
  go_wp2_with fail
  refine HZ.out.mono ?_
  rintro e w1 ⟨rfl, rfl⟩
  go_wp2
  go_ret
  exact get_end HV.out.1 HV.out.2
theorem oid_zz (w : World) (d : Nat) (u : Value) (T : TypeId) (v : Value) (hd : Blk w d 20 #[u]) : Calls Tryz.prog 254 #[.iface 163 (.pointer (some ⟨d, 0, none⟩)), .iface T v] w (ZzP d (.iface T v) w) := by
  have hta := ta_any d
  have hc : w.cell? ⟨d, 0, none⟩ = some u := by rw [hd.cell]; rfl
  have hf := hd.frozen 0
  clear hd
  go_enter Tryz.func254, Tryz.ntmps254
  go_wp2
  go_ret
  exact ⟨rfl, rfl⟩
set_option maxRecDepth 100000 in
theorem oid_Get_rest {w : World} {B g : Nat} {S : List (ByteArray × PV)} (h : Hd 3 w B g S) {n : ByteArray} (hr : Rest 3 n) {x : PV} (hx : lookG S n = some x) {d : Nat} {u : Value} (hd : Blk w d 20 #[u]) :
    Calls Tryz.prog 232 #[.pointer (some ⟨g, 0, none⟩), .string n, .iface 163 (.pointer (some ⟨d, 0, none⟩))] w (GetP d x w) := by
  obtain ⟨cs, m, h⟩ := h
  have q0 : (n.toList == [97, 117, 100]) = false := str_nel n [97, 117, 100] (hr.ne ⟨#[97, 117, 100]⟩ (by kernel_rfl))
  have q1 : (n.toList == [101, 109, 97, 105, 108]) = false := str_nel n [101, 109, 97, 105, 108] (hr.ne ⟨#[101, 109, 97, 105, 108]⟩ (by kernel_rfl))
  have q2 : (n.toList == [101, 109, 97, 105, 108, 95, 118, 101, 114, 105, 102, 105, 101, 100]) = false := str_nel n [101, 109, 97, 105, 108, 95, 118, 101, 114, 105, 102, 105, 101, 100] (hr.ne ⟨#[101, 109, 97, 105, 108, 95, 118, 101, 114, 105, 102, 105, 101, 100]⟩ (by kernel_rfl))
  have q3 : (n.toList == [102, 97, 109, 105, 108, 121, 95, 110, 97, 109, 101]) = false := str_nel n [102, 97, 109, 105, 108, 121, 95, 110, 97, 109, 101] (hr.ne ⟨#[102, 97, 109, 105, 108, 121, 95, 110, 97, 109, 101]⟩ (by kernel_rfl))
  have q4 : (n.toList == [103, 101, 110, 100, 101, 114]) = false := str_nel n [103, 101, 110, 100, 101, 114] (hr.ne ⟨#[103, 101, 110, 100, 101, 114]⟩ (by kernel_rfl))
  have q5 : (n.toList == [103, 105, 118, 101, 110, 95, 110, 97, 109, 101]) = false := str_nel n [103, 105, 118, 101, 110, 95, 110, 97, 109, 101] (hr.ne ⟨#[103, 105, 118, 101, 110, 95, 110, 97, 109, 101]⟩ (by kernel_rfl))
  have q6 : (n.toList == [105, 115, 115]) = false := str_nel n [105, 115, 115] (hr.ne ⟨#[105, 115, 115]⟩ (by kernel_rfl))
  have q7 : (n.toList == [106, 116, 105]) = false := str_nel n [106, 116, 105] (hr.ne ⟨#[106, 116, 105]⟩ (by kernel_rfl))
  have q8 : (n.toList == [108, 111, 99, 97, 108, 101]) = false := str_nel n [108, 111, 99, 97, 108, 101] (hr.ne ⟨#[108, 111, 99, 97, 108, 101]⟩ (by kernel_rfl))
  have q9 : (n.toList == [109, 105, 100, 100, 108, 101, 95, 110, 97, 109, 101]) = false := str_nel n [109, 105, 100, 100, 108, 101, 95, 110, 97, 109, 101] (hr.ne ⟨#[109, 105, 100, 100, 108, 101, 95, 110, 97, 109, 101]⟩ (by kernel_rfl))
  have q10 : (n.toList == [110, 97, 109, 101]) = false := str_nel n [110, 97, 109, 101] (hr.ne ⟨#[110, 97, 109, 101]⟩ (by kernel_rfl))
  have q11 : (n.toList == [110, 105, 99, 107, 110, 97, 109, 101]) = false := str_nel n [110, 105, 99, 107, 110, 97, 109, 101] (hr.ne ⟨#[110, 105, 99, 107, 110, 97, 109, 101]⟩ (by kernel_rfl))
  have q12 : (n.toList == [112, 104, 111, 110, 101, 95, 110, 117, 109, 98, 101, 114]) = false := str_nel n [112, 104, 111, 110, 101, 95, 110, 117, 109, 98, 101, 114] (hr.ne ⟨#[112, 104, 111, 110, 101, 95, 110, 117, 109, 98, 101, 114]⟩ (by kernel_rfl))
  have q13 : (n.toList == [112, 104, 111, 110, 101, 95, 110, 117, 109, 98, 101, 114, 95, 118, 101, 114, 105, 102, 105, 101, 100]) = false := str_nel n [112, 104, 111, 110, 101, 95, 110, 117, 109, 98, 101, 114, 95, 118, 101, 114, 105, 102, 105, 101, 100] (hr.ne ⟨#[112, 104, 111, 110, 101, 95, 110, 117, 109, 98, 101, 114, 95, 118, 101, 114, 105, 102, 105, 101, 100]⟩ (by kernel_rfl))
  have q14 : (n.toList == [112, 105, 99, 116, 117, 114, 101]) = false := str_nel n [112, 105, 99, 116, 117, 114, 101] (hr.ne ⟨#[112, 105, 99, 116, 117, 114, 101]⟩ (by kernel_rfl))
  have q15 : (n.toList == [112, 114, 101, 102, 101, 114, 114, 101, 100, 95, 117, 115, 101, 114, 110, 97, 109, 101]) = false := str_nel n [112, 114, 101, 102, 101, 114, 114, 101, 100, 95, 117, 115, 101, 114, 110, 97, 109, 101] (hr.ne ⟨#[112, 114, 101, 102, 101, 114, 114, 101, 100, 95, 117, 115, 101, 114, 110, 97, 109, 101]⟩ (by kernel_rfl))
  have q16 : (n.toList == [112, 114, 111, 102, 105, 108, 101]) = false := str_nel n [112, 114, 111, 102, 105, 108, 101] (hr.ne ⟨#[112, 114, 111, 102, 105, 108, 101]⟩ (by kernel_rfl))
  have q17 : (n.toList == [115, 117, 98]) = false := str_nel n [115, 117, 98] (hr.ne ⟨#[115, 117, 98]⟩ (by kernel_rfl))
  have q18 : (n.toList == [119, 101, 98, 115, 105, 116, 101]) = false := str_nel n [119, 101, 98, 115, 105, 116, 101] (hr.ne ⟨#[119, 101, 98, 115, 105, 116, 101]⟩ (by kernel_rfl))
  have q19 : (n.toList == [122, 111, 110, 101, 105, 110, 102, 111]) = false := str_nel n [122, 111, 110, 101, 105, 110, 102, 111] (hr.ne ⟨#[122, 111, 110, 101, 105, 110, 102, 111]⟩ (by kernel_rfl))
  have hc : w.cell? ⟨g, 21, none⟩ = some (.map m) := by rw [h.blk.cell]; exact h.map_
  obtain ⟨v, hv, hpv⟩ := h.look hr.1 (mty := 169) Tryz.underlying169 Tryz.underlying9 .nilIface zero_any
  have hlk := hv w rfl
  rw [hx, Option.isSome_some] at hlk
  have hpx := hpv x hx
  obtain ⟨T, vv, rfl⟩ := hpx.form
  have HV := Lib.hid (And.intro hd hpx)
  have HZ := Lib.hid (oid_zz w d u T vv hd)
  clear hv h hr hx hd hpv hpx
  go_enter Tryz.func232, Tryz.ntmps232
  go_wp2_with fail
  refine HZ.out.mono ?_
  rintro e w1 ⟨rfl, rfl⟩
  go_wp2
  go_ret
  exact get_end HV.out.1 HV.out.2
end Go.Proofs.YtapjbdigpleekaaGreat.Mp

/- Get of the known names; the conditions are on what lies in memory. Printed by gen_mpget.py. -/
set_option linter.unusedVariables false
set_option linter.unusedSimpArgs false
namespace Go.Proofs.YtapjbdigpleekaaGreat.Mp
open Go.RowKit Go.Proofs.YtapjbdigpleekaaGreat.K Go.Proofs.YtapjbdigpleekaaGreat.Cl
set_option maxRecDepth 100000 in
theorem jwt_Get_aud {w : World} {B g : Nat} {S : List (ByteArray × PV)} (h : Hd 2 w B g S) {x : PV} (hx : lookG S ⟨#[97, 117, 100]⟩ = some x) {d : Nat} {u : Value} (hd : Blk w d 20 #[u]) :
    Calls Tryz.prog 260 #[.pointer (some ⟨g, 0, none⟩), .string ⟨#[97, 117, 100]⟩, .iface 163 (.pointer (some ⟨d, 0, none⟩))] w (GetP d x w) := by
  obtain ⟨cs, m, h⟩ := h
  obtain ⟨uc, hu, hc⟩ := h.fld _ (List.mem_of_getElem? (show (fldK 2)[0]? = some (⟨#[97, 117, 100]⟩, 1, 2) from rfl))
  rw [hx] at hc
  rcases hc with ⟨e, _⟩ | ⟨l, a, nn, cc, e, rfl, ho⟩
  · cases e
  injection e with e
  subst e
  have hc1 : w.cell? ⟨g, 1, none⟩ = some (.slice (some a) nn cc) := by rw [h.blk.cell]; exact hu
  have hnil := fun W : World => Lib.run_eql_slice_nil (P := Tryz.prog) W 203 9 (some a) nn cc 0 0 Tryz.underlying203
  have HV := Lib.hid (show Blk w d 20 #[u] ∧ PVal w 0 (.iface 23 (.slice (some a) nn cc)) (.lst l) from ⟨hd, a, nn, cc, rfl, ho⟩)
  have HZ := Lib.hid (jwt_zz w d u 23 (.slice (some a) nn cc) hd)
  have HG := Lib.hid (Get_calls w (some a) nn cc)
  clear h hu ho hd hx
  go_enter Tryz.func260, Tryz.ntmps260
  go_wp2_with (first
    | (go_at_call 253; (with_reducible refine Calls.mono HG.out ?_); rintro e w1 ⟨rfl, rfl⟩)
    | ((with_reducible refine Calls.mono HZ.out ?_); rintro e w1 ⟨rfl, rfl⟩))
  go_ret
  exact get_end HV.out.1 HV.out.2
set_option maxRecDepth 100000 in
theorem jwt_Get_iss {w : World} {B g : Nat} {S : List (ByteArray × PV)} (h : Hd 2 w B g S) {x : PV} (hx : lookG S ⟨#[105, 115, 115]⟩ = some x) {d : Nat} {u : Value} (hd : Blk w d 20 #[u]) :
    Calls Tryz.prog 260 #[.pointer (some ⟨g, 0, none⟩), .string ⟨#[105, 115, 115]⟩, .iface 163 (.pointer (some ⟨d, 0, none⟩))] w (GetP d x w) := by
  obtain ⟨cs, m, h⟩ := h
  obtain ⟨uc, hu, hc⟩ := h.fld _ (List.mem_of_getElem? (show (fldK 2)[1]? = some (⟨#[105, 115, 115]⟩, 2, 0) from rfl))
  rw [hx] at hc
  rcases hc with ⟨e, _⟩ | ⟨s, b, e, rfl, hb⟩
  · cases e
  injection e with e
  subst e
  have hc1 : w.cell? ⟨g, 2, none⟩ = some (.pointer (some ⟨b, 0, none⟩)) := by rw [h.blk.cell]; exact hu
  have hc2 : w.cell? ⟨b, 0, none⟩ = some (.string s) := by rw [hb.cell]; rfl
  have HV := Lib.hid (show Blk w d 20 #[u] ∧ PVal w 0 (.iface 9 (.string s)) (.txt s) from ⟨hd, rfl⟩)
  have HZ := Lib.hid (jwt_zz w d u 9 (.string s) hd)
  clear h hu hb hd hx
  go_enter Tryz.func260, Tryz.ntmps260
  go_wp2_with fail
  refine HZ.out.mono ?_
  rintro e w1 ⟨rfl, rfl⟩
  go_wp2
  go_ret
  exact get_end HV.out.1 HV.out.2
set_option maxRecDepth 100000 in
theorem jwt_Get_jti {w : World} {B g : Nat} {S : List (ByteArray × PV)} (h : Hd 2 w B g S) {x : PV} (hx : lookG S ⟨#[106, 116, 105]⟩ = some x) {d : Nat} {u : Value} (hd : Blk w d 20 #[u]) :
    Calls Tryz.prog 260 #[.pointer (some ⟨g, 0, none⟩), .string ⟨#[106, 116, 105]⟩, .iface 163 (.pointer (some ⟨d, 0, none⟩))] w (GetP d x w) := by
  obtain ⟨cs, m, h⟩ := h
  obtain ⟨uc, hu, hc⟩ := h.fld _ (List.mem_of_getElem? (show (fldK 2)[2]? = some (⟨#[106, 116, 105]⟩, 3, 0) from rfl))
  rw [hx] at hc
  rcases hc with ⟨e, _⟩ | ⟨s, b, e, rfl, hb⟩
  · cases e
  injection e with e
  subst e
  have hc1 : w.cell? ⟨g, 3, none⟩ = some (.pointer (some ⟨b, 0, none⟩)) := by rw [h.blk.cell]; exact hu
  have hc2 : w.cell? ⟨b, 0, none⟩ = some (.string s) := by rw [hb.cell]; rfl
  have HV := Lib.hid (show Blk w d 20 #[u] ∧ PVal w 0 (.iface 9 (.string s)) (.txt s) from ⟨hd, rfl⟩)
  have HZ := Lib.hid (jwt_zz w d u 9 (.string s) hd)
  clear h hu hb hd hx
  go_enter Tryz.func260, Tryz.ntmps260
  go_wp2_with fail
  refine HZ.out.mono ?_
  rintro e w1 ⟨rfl, rfl⟩
  go_wp2
  go_ret
  exact get_end HV.out.1 HV.out.2
set_option maxRecDepth 100000 in
theorem jwt_Get_sub {w : World} {B g : Nat} {S : List (ByteArray × PV)} (h : Hd 2 w B g S) {x : PV} (hx : lookG S ⟨#[115, 117, 98]⟩ = some x) {d : Nat} {u : Value} (hd : Blk w d 20 #[u]) :
    Calls Tryz.prog 260 #[.pointer (some ⟨g, 0, none⟩), .string ⟨#[115, 117, 98]⟩, .iface 163 (.pointer (some ⟨d, 0, none⟩))] w (GetP d x w) := by
  obtain ⟨cs, m, h⟩ := h
  obtain ⟨uc, hu, hc⟩ := h.fld _ (List.mem_of_getElem? (show (fldK 2)[3]? = some (⟨#[115, 117, 98]⟩, 4, 0) from rfl))
  rw [hx] at hc
  rcases hc with ⟨e, _⟩ | ⟨s, b, e, rfl, hb⟩
  · cases e
  injection e with e
  subst e
  have hc1 : w.cell? ⟨g, 4, none⟩ = some (.pointer (some ⟨b, 0, none⟩)) := by rw [h.blk.cell]; exact hu
  have hc2 : w.cell? ⟨b, 0, none⟩ = some (.string s) := by rw [hb.cell]; rfl
  have HV := Lib.hid (show Blk w d 20 #[u] ∧ PVal w 0 (.iface 9 (.string s)) (.txt s) from ⟨hd, rfl⟩)
  have HZ := Lib.hid (jwt_zz w d u 9 (.string s) hd)
  clear h hu hb hd hx
  go_enter Tryz.func260, Tryz.ntmps260
  go_wp2_with fail
  refine HZ.out.mono ?_
  rintro e w1 ⟨rfl, rfl⟩
  go_wp2
  go_ret
  exact get_end HV.out.1 HV.out.2
set_option maxRecDepth 100000 in
theorem jwt_Get {w : World} {B g : Nat} {S : List (ByteArray × PV)} (h : Hd 2 w B g S) {n : ByteArray} (hr : n ∉ othL 2) {x : PV} (hx : lookG S n = some x) {d : Nat} {u : Value} (hd : Blk w d 20 #[u]) :
    Calls Tryz.prog 260 #[.pointer (some ⟨g, 0, none⟩), .string n, .iface 163 (.pointer (some ⟨d, 0, none⟩))] w (GetP d x w) := by
  cases hk : isK 2 n with
  | false => exact jwt_Get_rest h ⟨hk, hr⟩ hx hd
  | true =>
    obtain ⟨f, hf, rfl⟩ := isK_iff.1 hk
    simp only [fldK, List.mem_cons, List.not_mem_nil] at hf
    rcases hf with rfl | rfl | rfl | rfl | hf
    · exact jwt_Get_aud h hx hd
    · exact jwt_Get_iss h hx hd
    · exact jwt_Get_jti h hx hd
    · exact jwt_Get_sub h hx hd
    · exact absurd hf id
set_option maxRecDepth 100000 in
theorem jws_Get_cty {w : World} {B g : Nat} {S : List (ByteArray × PV)} (h : Hd 0 w B g S) {x : PV} (hx : lookG S ⟨#[99, 116, 121]⟩ = some x) {d : Nat} {u : Value} (hd : Blk w d 20 #[u]) :
    Calls Tryz.prog 169 #[.pointer (some ⟨g, 0, none⟩), .string ⟨#[99, 116, 121]⟩, .iface 163 (.pointer (some ⟨d, 0, none⟩))] w (GetP d x w) := by
  obtain ⟨cs, m, h⟩ := h
  obtain ⟨uc, hu, hc⟩ := h.fld _ (List.mem_of_getElem? (show (fldK 0)[0]? = some (⟨#[99, 116, 121]⟩, 2, 0) from rfl))
  rw [hx] at hc
  rcases hc with ⟨e, _⟩ | ⟨s, b, e, rfl, hb⟩
  · cases e
  injection e with e
  subst e
  have hc1 : w.cell? ⟨g, 2, none⟩ = some (.pointer (some ⟨b, 0, none⟩)) := by rw [h.blk.cell]; exact hu
  have hc2 : w.cell? ⟨b, 0, none⟩ = some (.string s) := by rw [hb.cell]; rfl
  have HV := Lib.hid (show Blk w d 20 #[u] ∧ PVal w 0 (.iface 9 (.string s)) (.txt s) from ⟨hd, rfl⟩)
  have HZ := Lib.hid (jws_zz w d u 9 (.string s) hd)
  clear h hu hb hd hx
  go_enter Tryz.func169, Tryz.ntmps169
  go_wp2_with fail
  refine HZ.out.mono ?_
  rintro e w1 ⟨rfl, rfl⟩
  go_wp2
  go_ret
  exact get_end HV.out.1 HV.out.2
set_option maxRecDepth 100000 in
theorem jws_Get_crit {w : World} {B g : Nat} {S : List (ByteArray × PV)} (h : Hd 0 w B g S) {x : PV} (hx : lookG S ⟨#[99, 114, 105, 116]⟩ = some x) {d : Nat} {u : Value} (hd : Blk w d 20 #[u]) :
    Calls Tryz.prog 169 #[.pointer (some ⟨g, 0, none⟩), .string ⟨#[99, 114, 105, 116]⟩, .iface 163 (.pointer (some ⟨d, 0, none⟩))] w (GetP d x w) := by
  obtain ⟨cs, m, h⟩ := h
  obtain ⟨uc, hu, hc⟩ := h.fld _ (List.mem_of_getElem? (show (fldK 0)[1]? = some (⟨#[99, 114, 105, 116]⟩, 3, 2) from rfl))
  rw [hx] at hc
  rcases hc with ⟨e, _⟩ | ⟨l, a, nn, cc, e, rfl, ho⟩
  · cases e
  injection e with e
  subst e
  have hc1 : w.cell? ⟨g, 3, none⟩ = some (.slice (some a) nn cc) := by rw [h.blk.cell]; exact hu
  have hnil := fun W : World => Lib.run_eql_slice_nil (P := Tryz.prog) W 23 9 (some a) nn cc 0 0 Tryz.underlying23
  have HV := Lib.hid (show Blk w d 20 #[u] ∧ PVal w 0 (.iface 23 (.slice (some a) nn cc)) (.lst l) from ⟨hd, a, nn, cc, rfl, ho⟩)
  have HZ := Lib.hid (jws_zz w d u 23 (.slice (some a) nn cc) hd)
  have HG := Lib.hid (Get_calls w (some a) nn cc)
  clear h hu ho hd hx
  go_enter Tryz.func169, Tryz.ntmps169
  go_wp2_with (first
    | (go_at_call 253; (with_reducible refine Calls.mono HG.out ?_); rintro e w1 ⟨rfl, rfl⟩)
    | ((with_reducible refine Calls.mono HZ.out ?_); rintro e w1 ⟨rfl, rfl⟩))
  go_ret
  exact get_end HV.out.1 HV.out.2
set_option maxRecDepth 100000 in
theorem jws_Get_jku {w : World} {B g : Nat} {S : List (ByteArray × PV)} (h : Hd 0 w B g S) {x : PV} (hx : lookG S ⟨#[106, 107, 117]⟩ = some x) {d : Nat} {u : Value} (hd : Blk w d 20 #[u]) :
    Calls Tryz.prog 169 #[.pointer (some ⟨g, 0, none⟩), .string ⟨#[106, 107, 117]⟩, .iface 163 (.pointer (some ⟨d, 0, none⟩))] w (GetP d x w) := by
  obtain ⟨cs, m, h⟩ := h
  obtain ⟨uc, hu, hc⟩ := h.fld _ (List.mem_of_getElem? (show (fldK 0)[2]? = some (⟨#[106, 107, 117]⟩, 4, 0) from rfl))
  rw [hx] at hc
  rcases hc with ⟨e, _⟩ | ⟨s, b, e, rfl, hb⟩
  · cases e
  injection e with e
  subst e
  have hc1 : w.cell? ⟨g, 4, none⟩ = some (.pointer (some ⟨b, 0, none⟩)) := by rw [h.blk.cell]; exact hu
  have hc2 : w.cell? ⟨b, 0, none⟩ = some (.string s) := by rw [hb.cell]; rfl
  have HV := Lib.hid (show Blk w d 20 #[u] ∧ PVal w 0 (.iface 9 (.string s)) (.txt s) from ⟨hd, rfl⟩)
  have HZ := Lib.hid (jws_zz w d u 9 (.string s) hd)
  clear h hu hb hd hx
  go_enter Tryz.func169, Tryz.ntmps169
  go_wp2_with fail
  refine HZ.out.mono ?_
  rintro e w1 ⟨rfl, rfl⟩
  go_wp2
  go_ret
  exact get_end HV.out.1 HV.out.2
set_option maxRecDepth 100000 in
theorem jws_Get_kid {w : World} {B g : Nat} {S : List (ByteArray × PV)} (h : Hd 0 w B g S) {x : PV} (hx : lookG S ⟨#[107, 105, 100]⟩ = some x) {d : Nat} {u : Value} (hd : Blk w d 20 #[u]) :
    Calls Tryz.prog 169 #[.pointer (some ⟨g, 0, none⟩), .string ⟨#[107, 105, 100]⟩, .iface 163 (.pointer (some ⟨d, 0, none⟩))] w (GetP d x w) := by
  obtain ⟨cs, m, h⟩ := h
  obtain ⟨uc, hu, hc⟩ := h.fld _ (List.mem_of_getElem? (show (fldK 0)[3]? = some (⟨#[107, 105, 100]⟩, 5, 0) from rfl))
  rw [hx] at hc
  rcases hc with ⟨e, _⟩ | ⟨s, b, e, rfl, hb⟩
  · cases e
  injection e with e
  subst e
  have hc1 : w.cell? ⟨g, 5, none⟩ = some (.pointer (some ⟨b, 0, none⟩)) := by rw [h.blk.cell]; exact hu
  have hc2 : w.cell? ⟨b, 0, none⟩ = some (.string s) := by rw [hb.cell]; rfl
  have HV := Lib.hid (show Blk w d 20 #[u] ∧ PVal w 0 (.iface 9 (.string s)) (.txt s) from ⟨hd, rfl⟩)
  have HZ := Lib.hid (jws_zz w d u 9 (.string s) hd)
  clear h hu hb hd hx
  go_enter Tryz.func169, Tryz.ntmps169
  go_wp2_with fail
  refine HZ.out.mono ?_
  rintro e w1 ⟨rfl, rfl⟩
  go_wp2
  go_ret
  exact get_end HV.out.1 HV.out.2
set_option maxRecDepth 100000 in
theorem jws_Get_typ {w : World} {B g : Nat} {S : List (ByteArray × PV)} (h : Hd 0 w B g S) {x : PV} (hx : lookG S ⟨#[116, 121, 112]⟩ = some x) {d : Nat} {u : Value} (hd : Blk w d 20 #[u]) :
    Calls Tryz.prog 169 #[.pointer (some ⟨g, 0, none⟩), .string ⟨#[116, 121, 112]⟩, .iface 163 (.pointer (some ⟨d, 0, none⟩))] w (GetP d x w) := by
  obtain ⟨cs, m, h⟩ := h
  obtain ⟨uc, hu, hc⟩ := h.fld _ (List.mem_of_getElem? (show (fldK 0)[4]? = some (⟨#[116, 121, 112]⟩, 6, 0) from rfl))
  rw [hx] at hc
  rcases hc with ⟨e, _⟩ | ⟨s, b, e, rfl, hb⟩
  · cases e
  injection e with e
  subst e
  have hc1 : w.cell? ⟨g, 6, none⟩ = some (.pointer (some ⟨b, 0, none⟩)) := by rw [h.blk.cell]; exact hu
  have hc2 : w.cell? ⟨b, 0, none⟩ = some (.string s) := by rw [hb.cell]; rfl
  have HV := Lib.hid (show Blk w d 20 #[u] ∧ PVal w 0 (.iface 9 (.string s)) (.txt s) from ⟨hd, rfl⟩)
  have HZ := Lib.hid (jws_zz w d u 9 (.string s) hd)
  clear h hu hb hd hx
  go_enter Tryz.func169, Tryz.ntmps169
  go_wp2_with fail
  refine HZ.out.mono ?_
  rintro e w1 ⟨rfl, rfl⟩
  go_wp2
  go_ret
  exact get_end HV.out.1 HV.out.2
set_option maxRecDepth 100000 in
theorem jws_Get_x5t {w : World} {B g : Nat} {S : List (ByteArray × PV)} (h : Hd 0 w B g S) {x : PV} (hx : lookG S ⟨#[120, 53, 116]⟩ = some x) {d : Nat} {u : Value} (hd : Blk w d 20 #[u]) :
    Calls Tryz.prog 169 #[.pointer (some ⟨g, 0, none⟩), .string ⟨#[120, 53, 116]⟩, .iface 163 (.pointer (some ⟨d, 0, none⟩))] w (GetP d x w) := by
  obtain ⟨cs, m, h⟩ := h
  obtain ⟨uc, hu, hc⟩ := h.fld _ (List.mem_of_getElem? (show (fldK 0)[5]? = some (⟨#[120, 53, 116]⟩, 7, 0) from rfl))
  rw [hx] at hc
  rcases hc with ⟨e, _⟩ | ⟨s, b, e, rfl, hb⟩
  · cases e
  injection e with e
  subst e
  have hc1 : w.cell? ⟨g, 7, none⟩ = some (.pointer (some ⟨b, 0, none⟩)) := by rw [h.blk.cell]; exact hu
  have hc2 : w.cell? ⟨b, 0, none⟩ = some (.string s) := by rw [hb.cell]; rfl
  have HV := Lib.hid (show Blk w d 20 #[u] ∧ PVal w 0 (.iface 9 (.string s)) (.txt s) from ⟨hd, rfl⟩)
  have HZ := Lib.hid (jws_zz w d u 9 (.string s) hd)
  clear h hu hb hd hx
  go_enter Tryz.func169, Tryz.ntmps169
  go_wp2_with fail
  refine HZ.out.mono ?_
  rintro e w1 ⟨rfl, rfl⟩
  go_wp2
  go_ret
  exact get_end HV.out.1 HV.out.2
set_option maxRecDepth 100000 in
theorem jws_Get_x5t_S256 {w : World} {B g : Nat} {S : List (ByteArray × PV)} (h : Hd 0 w B g S) {x : PV} (hx : lookG S ⟨#[120, 53, 116, 35, 83, 50, 53, 54]⟩ = some x) {d : Nat} {u : Value} (hd : Blk w d 20 #[u]) :
    Calls Tryz.prog 169 #[.pointer (some ⟨g, 0, none⟩), .string ⟨#[120, 53, 116, 35, 83, 50, 53, 54]⟩, .iface 163 (.pointer (some ⟨d, 0, none⟩))] w (GetP d x w) := by
  obtain ⟨cs, m, h⟩ := h
  obtain ⟨uc, hu, hc⟩ := h.fld _ (List.mem_of_getElem? (show (fldK 0)[6]? = some (⟨#[120, 53, 116, 35, 83, 50, 53, 54]⟩, 8, 0) from rfl))
  rw [hx] at hc
  rcases hc with ⟨e, _⟩ | ⟨s, b, e, rfl, hb⟩
  · cases e
  injection e with e
  subst e
  have hc1 : w.cell? ⟨g, 8, none⟩ = some (.pointer (some ⟨b, 0, none⟩)) := by rw [h.blk.cell]; exact hu
  have hc2 : w.cell? ⟨b, 0, none⟩ = some (.string s) := by rw [hb.cell]; rfl
  have HV := Lib.hid (show Blk w d 20 #[u] ∧ PVal w 0 (.iface 9 (.string s)) (.txt s) from ⟨hd, rfl⟩)
  have HZ := Lib.hid (jws_zz w d u 9 (.string s) hd)
  clear h hu hb hd hx
  go_enter Tryz.func169, Tryz.ntmps169
  go_wp2_with fail
  refine HZ.out.mono ?_
  rintro e w1 ⟨rfl, rfl⟩
  go_wp2
  go_ret
  exact get_end HV.out.1 HV.out.2
set_option maxRecDepth 100000 in
theorem jws_Get_x5u {w : World} {B g : Nat} {S : List (ByteArray × PV)} (h : Hd 0 w B g S) {x : PV} (hx : lookG S ⟨#[120, 53, 117]⟩ = some x) {d : Nat} {u : Value} (hd : Blk w d 20 #[u]) :
    Calls Tryz.prog 169 #[.pointer (some ⟨g, 0, none⟩), .string ⟨#[120, 53, 117]⟩, .iface 163 (.pointer (some ⟨d, 0, none⟩))] w (GetP d x w) := by
  obtain ⟨cs, m, h⟩ := h
  obtain ⟨uc, hu, hc⟩ := h.fld _ (List.mem_of_getElem? (show (fldK 0)[7]? = some (⟨#[120, 53, 117]⟩, 9, 0) from rfl))
  rw [hx] at hc
  rcases hc with ⟨e, _⟩ | ⟨s, b, e, rfl, hb⟩
  · cases e
  injection e with e
  subst e
  have hc1 : w.cell? ⟨g, 9, none⟩ = some (.pointer (some ⟨b, 0, none⟩)) := by rw [h.blk.cell]; exact hu
  have hc2 : w.cell? ⟨b, 0, none⟩ = some (.string s) := by rw [hb.cell]; rfl
  have HV := Lib.hid (show Blk w d 20 #[u] ∧ PVal w 0 (.iface 9 (.string s)) (.txt s) from ⟨hd, rfl⟩)
  have HZ := Lib.hid (jws_zz w d u 9 (.string s) hd)
  clear h hu hb hd hx
  go_enter Tryz.func169, Tryz.ntmps169
  go_wp2_with fail
  refine HZ.out.mono ?_
  rintro e w1 ⟨rfl, rfl⟩
  go_wp2
  go_ret
  exact get_end HV.out.1 HV.out.2
set_option maxRecDepth 100000 in
theorem jws_Get {w : World} {B g : Nat} {S : List (ByteArray × PV)} (h : Hd 0 w B g S) {n : ByteArray} (hr : n ∉ othL 0) {x : PV} (hx : lookG S n = some x) {d : Nat} {u : Value} (hd : Blk w d 20 #[u]) :
    Calls Tryz.prog 169 #[.pointer (some ⟨g, 0, none⟩), .string n, .iface 163 (.pointer (some ⟨d, 0, none⟩))] w (GetP d x w) := by
  cases hk : isK 0 n with
  | false => exact jws_Get_rest h ⟨hk, hr⟩ hx hd
  | true =>
    obtain ⟨f, hf, rfl⟩ := isK_iff.1 hk
    simp only [fldK, List.mem_cons, List.not_mem_nil] at hf
    rcases hf with rfl | rfl | rfl | rfl | rfl | rfl | rfl | rfl | hf
    · exact jws_Get_cty h hx hd
    · exact jws_Get_crit h hx hd
    · exact jws_Get_jku h hx hd
    · exact jws_Get_kid h hx hd
    · exact jws_Get_typ h hx hd
    · exact jws_Get_x5t h hx hd
    · exact jws_Get_x5t_S256 h hx hd
    · exact jws_Get_x5u h hx hd
    · exact absurd hf id
end Go.Proofs.YtapjbdigpleekaaGreat.Mp

/- Get of the known names; the conditions are on what lies in memory. Printed by gen_mpget.py. -/
set_option linter.unusedVariables false
set_option linter.unusedSimpArgs false
namespace Go.Proofs.YtapjbdigpleekaaGreat.Mp
open Go.RowKit Go.Proofs.YtapjbdigpleekaaGreat.K Go.Proofs.YtapjbdigpleekaaGreat.Cl
set_option maxRecDepth 100000 in
theorem jwe_Get_cty {w : World} {B g : Nat} {S : List (ByteArray × PV)} (h : Hd 1 w B g S) {x : PV} (hx : lookG S ⟨#[99, 116, 121]⟩ = some x) {d : Nat} {u : Value} (hd : Blk w d 20 #[u]) :
    Calls Tryz.prog 206 #[.pointer (some ⟨g, 0, none⟩), .string ⟨#[99, 116, 121]⟩, .iface 163 (.pointer (some ⟨d, 0, none⟩))] w (GetP d x w) := by
  obtain ⟨cs, m, h⟩ := h
  obtain ⟨uc, hu, hc⟩ := h.fld _ (List.mem_of_getElem? (show (fldK 1)[0]? = some (⟨#[99, 116, 121]⟩, 5, 0) from rfl))
  rw [hx] at hc
  rcases hc with ⟨e, _⟩ | ⟨s, b, e, rfl, hb⟩
  · cases e
  injection e with e
  subst e
  have hc1 : w.cell? ⟨g, 5, none⟩ = some (.pointer (some ⟨b, 0, none⟩)) := by rw [h.blk.cell]; exact hu
  have hc2 : w.cell? ⟨b, 0, none⟩ = some (.string s) := by rw [hb.cell]; rfl
  have HV := Lib.hid (show Blk w d 20 #[u] ∧ PVal w 0 (.iface 9 (.string s)) (.txt s) from ⟨hd, rfl⟩)
  have HZ := Lib.hid (jwe_zz w d u 9 (.string s) hd)
  clear h hu hb hd hx
  go_enter Tryz.func206, Tryz.ntmps206
  go_wp2_with fail
  refine HZ.out.mono ?_
  rintro e w1 ⟨rfl, rfl⟩
  go_wp2
  go_ret
  exact get_end HV.out.1 HV.out.2
set_option maxRecDepth 100000 in
theorem jwe_Get_crit {w : World} {B g : Nat} {S : List (ByteArray × PV)} (h : Hd 1 w B g S) {x : PV} (hx : lookG S ⟨#[99, 114, 105, 116]⟩ = some x) {d : Nat} {u : Value} (hd : Blk w d 20 #[u]) :
    Calls Tryz.prog 206 #[.pointer (some ⟨g, 0, none⟩), .string ⟨#[99, 114, 105, 116]⟩, .iface 163 (.pointer (some ⟨d, 0, none⟩))] w (GetP d x w) := by
  obtain ⟨cs, m, h⟩ := h
  obtain ⟨uc, hu, hc⟩ := h.fld _ (List.mem_of_getElem? (show (fldK 1)[1]? = some (⟨#[99, 114, 105, 116]⟩, 6, 2) from rfl))
  rw [hx] at hc
  rcases hc with ⟨e, _⟩ | ⟨l, a, nn, cc, e, rfl, ho⟩
  · cases e
  injection e with e
  subst e
  have hc1 : w.cell? ⟨g, 6, none⟩ = some (.slice (some a) nn cc) := by rw [h.blk.cell]; exact hu
  have hnil := fun W : World => Lib.run_eql_slice_nil (P := Tryz.prog) W 23 9 (some a) nn cc 0 0 Tryz.underlying23
  have HV := Lib.hid (show Blk w d 20 #[u] ∧ PVal w 0 (.iface 23 (.slice (some a) nn cc)) (.lst l) from ⟨hd, a, nn, cc, rfl, ho⟩)
  have HZ := Lib.hid (jwe_zz w d u 23 (.slice (some a) nn cc) hd)
  have HG := Lib.hid (Get_calls w (some a) nn cc)
  clear h hu ho hd hx
  go_enter Tryz.func206, Tryz.ntmps206
  go_wp2_with (first
    | (go_at_call 253; (with_reducible refine Calls.mono HG.out ?_); rintro e w1 ⟨rfl, rfl⟩)
    | ((with_reducible refine Calls.mono HZ.out ?_); rintro e w1 ⟨rfl, rfl⟩))
  go_ret
  exact get_end HV.out.1 HV.out.2
set_option maxRecDepth 100000 in
theorem jwe_Get_jku {w : World} {B g : Nat} {S : List (ByteArray × PV)} (h : Hd 1 w B g S) {x : PV} (hx : lookG S ⟨#[106, 107, 117]⟩ = some x) {d : Nat} {u : Value} (hd : Blk w d 20 #[u]) :
    Calls Tryz.prog 206 #[.pointer (some ⟨g, 0, none⟩), .string ⟨#[106, 107, 117]⟩, .iface 163 (.pointer (some ⟨d, 0, none⟩))] w (GetP d x w) := by
  obtain ⟨cs, m, h⟩ := h
  obtain ⟨uc, hu, hc⟩ := h.fld _ (List.mem_of_getElem? (show (fldK 1)[2]? = some (⟨#[106, 107, 117]⟩, 7, 0) from rfl))
  rw [hx] at hc
  rcases hc with ⟨e, _⟩ | ⟨s, b, e, rfl, hb⟩
  · cases e
  injection e with e
  subst e
  have hc1 : w.cell? ⟨g, 7, none⟩ = some (.pointer (some ⟨b, 0, none⟩)) := by rw [h.blk.cell]; exact hu
  have hc2 : w.cell? ⟨b, 0, none⟩ = some (.string s) := by rw [hb.cell]; rfl
  have HV := Lib.hid (show Blk w d 20 #[u] ∧ PVal w 0 (.iface 9 (.string s)) (.txt s) from ⟨hd, rfl⟩)
  have HZ := Lib.hid (jwe_zz w d u 9 (.string s) hd)
  clear h hu hb hd hx
  go_enter Tryz.func206, Tryz.ntmps206
  go_wp2_with fail
  refine HZ.out.mono ?_
  rintro e w1 ⟨rfl, rfl⟩
  go_wp2
  go_ret
  exact get_end HV.out.1 HV.out.2
set_option maxRecDepth 100000 in
theorem jwe_Get_kid {w : World} {B g : Nat} {S : List (ByteArray × PV)} (h : Hd 1 w B g S) {x : PV} (hx : lookG S ⟨#[107, 105, 100]⟩ = some x) {d : Nat} {u : Value} (hd : Blk w d 20 #[u]) :
    Calls Tryz.prog 206 #[.pointer (some ⟨g, 0, none⟩), .string ⟨#[107, 105, 100]⟩, .iface 163 (.pointer (some ⟨d, 0, none⟩))] w (GetP d x w) := by
  obtain ⟨cs, m, h⟩ := h
  obtain ⟨uc, hu, hc⟩ := h.fld _ (List.mem_of_getElem? (show (fldK 1)[3]? = some (⟨#[107, 105, 100]⟩, 8, 0) from rfl))
  rw [hx] at hc
  rcases hc with ⟨e, _⟩ | ⟨s, b, e, rfl, hb⟩
  · cases e
  injection e with e
  subst e
  have hc1 : w.cell? ⟨g, 8, none⟩ = some (.pointer (some ⟨b, 0, none⟩)) := by rw [h.blk.cell]; exact hu
  have hc2 : w.cell? ⟨b, 0, none⟩ = some (.string s) := by rw [hb.cell]; rfl
  have HV := Lib.hid (show Blk w d 20 #[u] ∧ PVal w 0 (.iface 9 (.string s)) (.txt s) from ⟨hd, rfl⟩)
  have HZ := Lib.hid (jwe_zz w d u 9 (.string s) hd)
  clear h hu hb hd hx
  go_enter Tryz.func206, Tryz.ntmps206
  go_wp2_with fail
  refine HZ.out.mono ?_
  rintro e w1 ⟨rfl, rfl⟩
  go_wp2
  go_ret
  exact get_end HV.out.1 HV.out.2
set_option maxRecDepth 100000 in
theorem jwe_Get_typ {w : World} {B g : Nat} {S : List (ByteArray × PV)} (h : Hd 1 w B g S) {x : PV} (hx : lookG S ⟨#[116, 121, 112]⟩ = some x) {d : Nat} {u : Value} (hd : Blk w d 20 #[u]) :
    Calls Tryz.prog 206 #[.pointer (some ⟨g, 0, none⟩), .string ⟨#[116, 121, 112]⟩, .iface 163 (.pointer (some ⟨d, 0, none⟩))] w (GetP d x w) := by
  obtain ⟨cs, m, h⟩ := h
  obtain ⟨uc, hu, hc⟩ := h.fld _ (List.mem_of_getElem? (show (fldK 1)[4]? = some (⟨#[116, 121, 112]⟩, 9, 0) from rfl))
  rw [hx] at hc
  rcases hc with ⟨e, _⟩ | ⟨s, b, e, rfl, hb⟩
  · cases e
  injection e with e
  subst e
  have hc1 : w.cell? ⟨g, 9, none⟩ = some (.pointer (some ⟨b, 0, none⟩)) := by rw [h.blk.cell]; exact hu
  have hc2 : w.cell? ⟨b, 0, none⟩ = some (.string s) := by rw [hb.cell]; rfl
  have HV := Lib.hid (show Blk w d 20 #[u] ∧ PVal w 0 (.iface 9 (.string s)) (.txt s) from ⟨hd, rfl⟩)
  have HZ := Lib.hid (jwe_zz w d u 9 (.string s) hd)
  clear h hu hb hd hx
  go_enter Tryz.func206, Tryz.ntmps206
  go_wp2_with fail
  refine HZ.out.mono ?_
  rintro e w1 ⟨rfl, rfl⟩
  go_wp2
  go_ret
  exact get_end HV.out.1 HV.out.2
set_option maxRecDepth 100000 in
theorem jwe_Get_x5t {w : World} {B g : Nat} {S : List (ByteArray × PV)} (h : Hd 1 w B g S) {x : PV} (hx : lookG S ⟨#[120, 53, 116]⟩ = some x) {d : Nat} {u : Value} (hd : Blk w d 20 #[u]) :
    Calls Tryz.prog 206 #[.pointer (some ⟨g, 0, none⟩), .string ⟨#[120, 53, 116]⟩, .iface 163 (.pointer (some ⟨d, 0, none⟩))] w (GetP d x w) := by
  obtain ⟨cs, m, h⟩ := h
  obtain ⟨uc, hu, hc⟩ := h.fld _ (List.mem_of_getElem? (show (fldK 1)[5]? = some (⟨#[120, 53, 116]⟩, 10, 0) from rfl))
  rw [hx] at hc
  rcases hc with ⟨e, _⟩ | ⟨s, b, e, rfl, hb⟩
  · cases e
  injection e with e
  subst e
  have hc1 : w.cell? ⟨g, 10, none⟩ = some (.pointer (some ⟨b, 0, none⟩)) := by rw [h.blk.cell]; exact hu
  have hc2 : w.cell? ⟨b, 0, none⟩ = some (.string s) := by rw [hb.cell]; rfl
  have HV := Lib.hid (show Blk w d 20 #[u] ∧ PVal w 0 (.iface 9 (.string s)) (.txt s) from ⟨hd, rfl⟩)
  have HZ := Lib.hid (jwe_zz w d u 9 (.string s) hd)
  clear h hu hb hd hx
  go_enter Tryz.func206, Tryz.ntmps206
  go_wp2_with fail
  refine HZ.out.mono ?_
  rintro e w1 ⟨rfl, rfl⟩
  go_wp2
  go_ret
  exact get_end HV.out.1 HV.out.2
set_option maxRecDepth 100000 in
theorem jwe_Get_x5t_S256 {w : World} {B g : Nat} {S : List (ByteArray × PV)} (h : Hd 1 w B g S) {x : PV} (hx : lookG S ⟨#[120, 53, 116, 35, 83, 50, 53, 54]⟩ = some x) {d : Nat} {u : Value} (hd : Blk w d 20 #[u]) :
    Calls Tryz.prog 206 #[.pointer (some ⟨g, 0, none⟩), .string ⟨#[120, 53, 116, 35, 83, 50, 53, 54]⟩, .iface 163 (.pointer (some ⟨d, 0, none⟩))] w (GetP d x w) := by
  obtain ⟨cs, m, h⟩ := h
  obtain ⟨uc, hu, hc⟩ := h.fld _ (List.mem_of_getElem? (show (fldK 1)[6]? = some (⟨#[120, 53, 116, 35, 83, 50, 53, 54]⟩, 11, 0) from rfl))
  rw [hx] at hc
  rcases hc with ⟨e, _⟩ | ⟨s, b, e, rfl, hb⟩
  · cases e
  injection e with e
  subst e
  have hc1 : w.cell? ⟨g, 11, none⟩ = some (.pointer (some ⟨b, 0, none⟩)) := by rw [h.blk.cell]; exact hu
  have hc2 : w.cell? ⟨b, 0, none⟩ = some (.string s) := by rw [hb.cell]; rfl
  have HV := Lib.hid (show Blk w d 20 #[u] ∧ PVal w 0 (.iface 9 (.string s)) (.txt s) from ⟨hd, rfl⟩)
  have HZ := Lib.hid (jwe_zz w d u 9 (.string s) hd)
  clear h hu hb hd hx
  go_enter Tryz.func206, Tryz.ntmps206
  go_wp2_with fail
  refine HZ.out.mono ?_
  rintro e w1 ⟨rfl, rfl⟩
  go_wp2
  go_ret
  exact get_end HV.out.1 HV.out.2
set_option maxRecDepth 100000 in
theorem jwe_Get_x5u {w : World} {B g : Nat} {S : List (ByteArray × PV)} (h : Hd 1 w B g S) {x : PV} (hx : lookG S ⟨#[120, 53, 117]⟩ = some x) {d : Nat} {u : Value} (hd : Blk w d 20 #[u]) :
    Calls Tryz.prog 206 #[.pointer (some ⟨g, 0, none⟩), .string ⟨#[120, 53, 117]⟩, .iface 163 (.pointer (some ⟨d, 0, none⟩))] w (GetP d x w) := by
  obtain ⟨cs, m, h⟩ := h
  obtain ⟨uc, hu, hc⟩ := h.fld _ (List.mem_of_getElem? (show (fldK 1)[7]? = some (⟨#[120, 53, 117]⟩, 12, 0) from rfl))
  rw [hx] at hc
  rcases hc with ⟨e, _⟩ | ⟨s, b, e, rfl, hb⟩
  · cases e
  injection e with e
  subst e
  have hc1 : w.cell? ⟨g, 12, none⟩ = some (.pointer (some ⟨b, 0, none⟩)) := by rw [h.blk.cell]; exact hu
  have hc2 : w.cell? ⟨b, 0, none⟩ = some (.string s) := by rw [hb.cell]; rfl
  have HV := Lib.hid (show Blk w d 20 #[u] ∧ PVal w 0 (.iface 9 (.string s)) (.txt s) from ⟨hd, rfl⟩)
  have HZ := Lib.hid (jwe_zz w d u 9 (.string s) hd)
  clear h hu hb hd hx
  go_enter Tryz.func206, Tryz.ntmps206
  go_wp2_with fail
  refine HZ.out.mono ?_
  rintro e w1 ⟨rfl, rfl⟩
  go_wp2
  go_ret
  exact get_end HV.out.1 HV.out.2
set_option maxRecDepth 100000 in
theorem jwe_Get {w : World} {B g : Nat} {S : List (ByteArray × PV)} (h : Hd 1 w B g S) {n : ByteArray} (hr : n ∉ othL 1) {x : PV} (hx : lookG S n = some x) {d : Nat} {u : Value} (hd : Blk w d 20 #[u]) :
    Calls Tryz.prog 206 #[.pointer (some ⟨g, 0, none⟩), .string n, .iface 163 (.pointer (some ⟨d, 0, none⟩))] w (GetP d x w) := by
  cases hk : isK 1 n with
  | false => exact jwe_Get_rest h ⟨hk, hr⟩ hx hd
  | true =>
    obtain ⟨f, hf, rfl⟩ := isK_iff.1 hk
    simp only [fldK, List.mem_cons, List.not_mem_nil] at hf
    rcases hf with rfl | rfl | rfl | rfl | rfl | rfl | rfl | rfl | hf
    · exact jwe_Get_cty h hx hd
    · exact jwe_Get_crit h hx hd
    · exact jwe_Get_jku h hx hd
    · exact jwe_Get_kid h hx hd
    · exact jwe_Get_typ h hx hd
    · exact jwe_Get_x5t h hx hd
    · exact jwe_Get_x5t_S256 h hx hd
    · exact jwe_Get_x5u h hx hd
    · exact absurd hf id
end Go.Proofs.YtapjbdigpleekaaGreat.Mp

/- Get of the known names; the conditions are on what lies in memory. Printed by gen_mpget.py. -/
set_option linter.unusedVariables false
set_option linter.unusedSimpArgs false
namespace Go.Proofs.YtapjbdigpleekaaGreat.Mp
open Go.RowKit Go.Proofs.YtapjbdigpleekaaGreat.K Go.Proofs.YtapjbdigpleekaaGreat.Cl
set_option maxRecDepth 100000 in
theorem oid_Get_aud {w : World} {B g : Nat} {S : List (ByteArray × PV)} (h : Hd 3 w B g S) {x : PV} (hx : lookG S ⟨#[97, 117, 100]⟩ = some x) {d : Nat} {u : Value} (hd : Blk w d 20 #[u]) :
    Calls Tryz.prog 232 #[.pointer (some ⟨g, 0, none⟩), .string ⟨#[97, 117, 100]⟩, .iface 163 (.pointer (some ⟨d, 0, none⟩))] w (GetP d x w) := by
  obtain ⟨cs, m, h⟩ := h
  obtain ⟨uc, hu, hc⟩ := h.fld _ (List.mem_of_getElem? (show (fldK 3)[0]? = some (⟨#[97, 117, 100]⟩, 1, 2) from rfl))
  rw [hx] at hc
  rcases hc with ⟨e, _⟩ | ⟨l, a, nn, cc, e, rfl, ho⟩
  · cases e
  injection e with e
  subst e
  have hc1 : w.cell? ⟨g, 1, none⟩ = some (.slice (some a) nn cc) := by rw [h.blk.cell]; exact hu
  have hnil := fun W : World => Lib.run_eql_slice_nil (P := Tryz.prog) W 203 9 (some a) nn cc 0 0 Tryz.underlying203
  have HV := Lib.hid (show Blk w d 20 #[u] ∧ PVal w 0 (.iface 23 (.slice (some a) nn cc)) (.lst l) from ⟨hd, a, nn, cc, rfl, ho⟩)
  have HZ := Lib.hid (oid_zz w d u 23 (.slice (some a) nn cc) hd)
  have HG := Lib.hid (Get_calls w (some a) nn cc)
  clear h hu ho hd hx
  go_enter Tryz.func232, Tryz.ntmps232
  go_wp2_with (first
    | (go_at_call 253; (with_reducible refine Calls.mono HG.out ?_); rintro e w1 ⟨rfl, rfl⟩)
    | ((with_reducible refine Calls.mono HZ.out ?_); rintro e w1 ⟨rfl, rfl⟩))
  go_ret
  exact get_end HV.out.1 HV.out.2
set_option maxRecDepth 100000 in
theorem oid_Get_email {w : World} {B g : Nat} {S : List (ByteArray × PV)} (h : Hd 3 w B g S) {x : PV} (hx : lookG S ⟨#[101, 109, 97, 105, 108]⟩ = some x) {d : Nat} {u : Value} (hd : Blk w d 20 #[u]) :
    Calls Tryz.prog 232 #[.pointer (some ⟨g, 0, none⟩), .string ⟨#[101, 109, 97, 105, 108]⟩, .iface 163 (.pointer (some ⟨d, 0, none⟩))] w (GetP d x w) := by
  obtain ⟨cs, m, h⟩ := h
  obtain ⟨uc, hu, hc⟩ := h.fld _ (List.mem_of_getElem? (show (fldK 3)[1]? = some (⟨#[101, 109, 97, 105, 108]⟩, 2, 0) from rfl))
  rw [hx] at hc
  rcases hc with ⟨e, _⟩ | ⟨s, b, e, rfl, hb⟩
  · cases e
  injection e with e
  subst e
  have hc1 : w.cell? ⟨g, 2, none⟩ = some (.pointer (some ⟨b, 0, none⟩)) := by rw [h.blk.cell]; exact hu
  have hc2 : w.cell? ⟨b, 0, none⟩ = some (.string s) := by rw [hb.cell]; rfl
  have HV := Lib.hid (show Blk w d 20 #[u] ∧ PVal w 0 (.iface 9 (.string s)) (.txt s) from ⟨hd, rfl⟩)
  have HZ := Lib.hid (oid_zz w d u 9 (.string s) hd)
  clear h hu hb hd hx
  go_enter Tryz.func232, Tryz.ntmps232
  go_wp2_with fail
  refine HZ.out.mono ?_
  rintro e w1 ⟨rfl, rfl⟩
  go_wp2
  go_ret
  exact get_end HV.out.1 HV.out.2
set_option maxRecDepth 100000 in
theorem oid_Get_email_verified {w : World} {B g : Nat} {S : List (ByteArray × PV)} (h : Hd 3 w B g S) {x : PV} (hx : lookG S ⟨#[101, 109, 97, 105, 108, 95, 118, 101, 114, 105, 102, 105, 101, 100]⟩ = some x) {d : Nat} {u : Value} (hd : Blk w d 20 #[u]) :
    Calls Tryz.prog 232 #[.pointer (some ⟨g, 0, none⟩), .string ⟨#[101, 109, 97, 105, 108, 95, 118, 101, 114, 105, 102, 105, 101, 100]⟩, .iface 163 (.pointer (some ⟨d, 0, none⟩))] w (GetP d x w) := by
  obtain ⟨cs, m, h⟩ := h
  obtain ⟨uc, hu, hc⟩ := h.fld _ (List.mem_of_getElem? (show (fldK 3)[2]? = some (⟨#[101, 109, 97, 105, 108, 95, 118, 101, 114, 105, 102, 105, 101, 100]⟩, 3, 1) from rfl))
  rw [hx] at hc
  rcases hc with ⟨e, _⟩ | ⟨s, b, e, rfl, hb⟩
  · cases e
  injection e with e
  subst e
  have hc1 : w.cell? ⟨g, 3, none⟩ = some (.pointer (some ⟨b, 0, none⟩)) := by rw [h.blk.cell]; exact hu
  have hc2 : w.cell? ⟨b, 0, none⟩ = some (.bool s) := by rw [hb.cell]; rfl
  have HV := Lib.hid (show Blk w d 20 #[u] ∧ PVal w 0 (.iface 4 (.bool s)) (.tru s) from ⟨hd, rfl⟩)
  have HZ := Lib.hid (oid_zz w d u 4 (.bool s) hd)
  clear h hu hb hd hx
  go_enter Tryz.func232, Tryz.ntmps232
  go_wp2_with fail
  refine HZ.out.mono ?_
  rintro e w1 ⟨rfl, rfl⟩
  go_wp2
  go_ret
  exact get_end HV.out.1 HV.out.2
set_option maxRecDepth 100000 in
theorem oid_Get_family_name {w : World} {B g : Nat} {S : List (ByteArray × PV)} (h : Hd 3 w B g S) {x : PV} (hx : lookG S ⟨#[102, 97, 109, 105, 108, 121, 95, 110, 97, 109, 101]⟩ = some x) {d : Nat} {u : Value} (hd : Blk w d 20 #[u]) :
    Calls Tryz.prog 232 #[.pointer (some ⟨g, 0, none⟩), .string ⟨#[102, 97, 109, 105, 108, 121, 95, 110, 97, 109, 101]⟩, .iface 163 (.pointer (some ⟨d, 0, none⟩))] w (GetP d x w) := by
  obtain ⟨cs, m, h⟩ := h
  obtain ⟨uc, hu, hc⟩ := h.fld _ (List.mem_of_getElem? (show (fldK 3)[3]? = some (⟨#[102, 97, 109, 105, 108, 121, 95, 110, 97, 109, 101]⟩, 4, 0) from rfl))
  rw [hx] at hc
  rcases hc with ⟨e, _⟩ | ⟨s, b, e, rfl, hb⟩
  · cases e
  injection e with e
  subst e
  have hc1 : w.cell? ⟨g, 4, none⟩ = some (.pointer (some ⟨b, 0, none⟩)) := by rw [h.blk.cell]; exact hu
  have hc2 : w.cell? ⟨b, 0, none⟩ = some (.string s) := by rw [hb.cell]; rfl
  have HV := Lib.hid (show Blk w d 20 #[u] ∧ PVal w 0 (.iface 9 (.string s)) (.txt s) from ⟨hd, rfl⟩)
  have HZ := Lib.hid (oid_zz w d u 9 (.string s) hd)
  clear h hu hb hd hx
  go_enter Tryz.func232, Tryz.ntmps232
  go_wp2_with fail
  refine HZ.out.mono ?_
  rintro e w1 ⟨rfl, rfl⟩
  go_wp2
  go_ret
  exact get_end HV.out.1 HV.out.2
set_option maxRecDepth 100000 in
theorem oid_Get_gender {w : World} {B g : Nat} {S : List (ByteArray × PV)} (h : Hd 3 w B g S) {x : PV} (hx : lookG S ⟨#[103, 101, 110, 100, 101, 114]⟩ = some x) {d : Nat} {u : Value} (hd : Blk w d 20 #[u]) :
    Calls Tryz.prog 232 #[.pointer (some ⟨g, 0, none⟩), .string ⟨#[103, 101, 110, 100, 101, 114]⟩, .iface 163 (.pointer (some ⟨d, 0, none⟩))] w (GetP d x w) := by
  obtain ⟨cs, m, h⟩ := h
  obtain ⟨uc, hu, hc⟩ := h.fld _ (List.mem_of_getElem? (show (fldK 3)[4]? = some (⟨#[103, 101, 110, 100, 101, 114]⟩, 5, 0) from rfl))
  rw [hx] at hc
  rcases hc with ⟨e, _⟩ | ⟨s, b, e, rfl, hb⟩
  · cases e
  injection e with e
  subst e
  have hc1 : w.cell? ⟨g, 5, none⟩ = some (.pointer (some ⟨b, 0, none⟩)) := by rw [h.blk.cell]; exact hu
  have hc2 : w.cell? ⟨b, 0, none⟩ = some (.string s) := by rw [hb.cell]; rfl
  have HV := Lib.hid (show Blk w d 20 #[u] ∧ PVal w 0 (.iface 9 (.string s)) (.txt s) from ⟨hd, rfl⟩)
  have HZ := Lib.hid (oid_zz w d u 9 (.string s) hd)
  clear h hu hb hd hx
  go_enter Tryz.func232, Tryz.ntmps232
  go_wp2_with fail
  refine HZ.out.mono ?_
  rintro e w1 ⟨rfl, rfl⟩
  go_wp2
  go_ret
  exact get_end HV.out.1 HV.out.2
set_option maxRecDepth 100000 in
theorem oid_Get_given_name {w : World} {B g : Nat} {S : List (ByteArray × PV)} (h : Hd 3 w B g S) {x : PV} (hx : lookG S ⟨#[103, 105, 118, 101, 110, 95, 110, 97, 109, 101]⟩ = some x) {d : Nat} {u : Value} (hd : Blk w d 20 #[u]) :
    Calls Tryz.prog 232 #[.pointer (some ⟨g, 0, none⟩), .string ⟨#[103, 105, 118, 101, 110, 95, 110, 97, 109, 101]⟩, .iface 163 (.pointer (some ⟨d, 0, none⟩))] w (GetP d x w) := by
  obtain ⟨cs, m, h⟩ := h
  obtain ⟨uc, hu, hc⟩ := h.fld _ (List.mem_of_getElem? (show (fldK 3)[5]? = some (⟨#[103, 105, 118, 101, 110, 95, 110, 97, 109, 101]⟩, 6, 0) from rfl))
  rw [hx] at hc
  rcases hc with ⟨e, _⟩ | ⟨s, b, e, rfl, hb⟩
  · cases e
  injection e with e
  subst e
  have hc1 : w.cell? ⟨g, 6, none⟩ = some (.pointer (some ⟨b, 0, none⟩)) := by rw [h.blk.cell]; exact hu
  have hc2 : w.cell? ⟨b, 0, none⟩ = some (.string s) := by rw [hb.cell]; rfl
  have HV := Lib.hid (show Blk w d 20 #[u] ∧ PVal w 0 (.iface 9 (.string s)) (.txt s) from ⟨hd, rfl⟩)
  have HZ := Lib.hid (oid_zz w d u 9 (.string s) hd)
  clear h hu hb hd hx
  go_enter Tryz.func232, Tryz.ntmps232
  go_wp2_with fail
  refine HZ.out.mono ?_
  rintro e w1 ⟨rfl, rfl⟩
  go_wp2
  go_ret
  exact get_end HV.out.1 HV.out.2
set_option maxRecDepth 100000 in
theorem oid_Get_iss {w : World} {B g : Nat} {S : List (ByteArray × PV)} (h : Hd 3 w B g S) {x : PV} (hx : lookG S ⟨#[105, 115, 115]⟩ = some x) {d : Nat} {u : Value} (hd : Blk w d 20 #[u]) :
    Calls Tryz.prog 232 #[.pointer (some ⟨g, 0, none⟩), .string ⟨#[105, 115, 115]⟩, .iface 163 (.pointer (some ⟨d, 0, none⟩))] w (GetP d x w) := by
  obtain ⟨cs, m, h⟩ := h
  obtain ⟨uc, hu, hc⟩ := h.fld _ (List.mem_of_getElem? (show (fldK 3)[6]? = some (⟨#[105, 115, 115]⟩, 7, 0) from rfl))
  rw [hx] at hc
  rcases hc with ⟨e, _⟩ | ⟨s, b, e, rfl, hb⟩
  · cases e
  injection e with e
  subst e
  have hc1 : w.cell? ⟨g, 7, none⟩ = some (.pointer (some ⟨b, 0, none⟩)) := by rw [h.blk.cell]; exact hu
  have hc2 : w.cell? ⟨b, 0, none⟩ = some (.string s) := by rw [hb.cell]; rfl
  have HV := Lib.hid (show Blk w d 20 #[u] ∧ PVal w 0 (.iface 9 (.string s)) (.txt s) from ⟨hd, rfl⟩)
  have HZ := Lib.hid (oid_zz w d u 9 (.string s) hd)
  clear h hu hb hd hx
  go_enter Tryz.func232, Tryz.ntmps232
  go_wp2_with fail
  refine HZ.out.mono ?_
  rintro e w1 ⟨rfl, rfl⟩
  go_wp2
  go_ret
  exact get_end HV.out.1 HV.out.2
set_option maxRecDepth 100000 in
theorem oid_Get_jti {w : World} {B g : Nat} {S : List (ByteArray × PV)} (h : Hd 3 w B g S) {x : PV} (hx : lookG S ⟨#[106, 116, 105]⟩ = some x) {d : Nat} {u : Value} (hd : Blk w d 20 #[u]) :
    Calls Tryz.prog 232 #[.pointer (some ⟨g, 0, none⟩), .string ⟨#[106, 116, 105]⟩, .iface 163 (.pointer (some ⟨d, 0, none⟩))] w (GetP d x w) := by
  obtain ⟨cs, m, h⟩ := h
  obtain ⟨uc, hu, hc⟩ := h.fld _ (List.mem_of_getElem? (show (fldK 3)[7]? = some (⟨#[106, 116, 105]⟩, 8, 0) from rfl))
  rw [hx] at hc
  rcases hc with ⟨e, _⟩ | ⟨s, b, e, rfl, hb⟩
  · cases e
  injection e with e
  subst e
  have hc1 : w.cell? ⟨g, 8, none⟩ = some (.pointer (some ⟨b, 0, none⟩)) := by rw [h.blk.cell]; exact hu
  have hc2 : w.cell? ⟨b, 0, none⟩ = some (.string s) := by rw [hb.cell]; rfl
  have HV := Lib.hid (show Blk w d 20 #[u] ∧ PVal w 0 (.iface 9 (.string s)) (.txt s) from ⟨hd, rfl⟩)
  have HZ := Lib.hid (oid_zz w d u 9 (.string s) hd)
  clear h hu hb hd hx
  go_enter Tryz.func232, Tryz.ntmps232
  go_wp2_with fail
  refine HZ.out.mono ?_
  rintro e w1 ⟨rfl, rfl⟩
  go_wp2
  go_ret
  exact get_end HV.out.1 HV.out.2
set_option maxRecDepth 100000 in
theorem oid_Get_locale {w : World} {B g : Nat} {S : List (ByteArray × PV)} (h : Hd 3 w B g S) {x : PV} (hx : lookG S ⟨#[108, 111, 99, 97, 108, 101]⟩ = some x) {d : Nat} {u : Value} (hd : Blk w d 20 #[u]) :
    Calls Tryz.prog 232 #[.pointer (some ⟨g, 0, none⟩), .string ⟨#[108, 111, 99, 97, 108, 101]⟩, .iface 163 (.pointer (some ⟨d, 0, none⟩))] w (GetP d x w) := by
  obtain ⟨cs, m, h⟩ := h
  obtain ⟨uc, hu, hc⟩ := h.fld _ (List.mem_of_getElem? (show (fldK 3)[8]? = some (⟨#[108, 111, 99, 97, 108, 101]⟩, 9, 0) from rfl))
  rw [hx] at hc
  rcases hc with ⟨e, _⟩ | ⟨s, b, e, rfl, hb⟩
  · cases e
  injection e with e
  subst e
  have hc1 : w.cell? ⟨g, 9, none⟩ = some (.pointer (some ⟨b, 0, none⟩)) := by rw [h.blk.cell]; exact hu
  have hc2 : w.cell? ⟨b, 0, none⟩ = some (.string s) := by rw [hb.cell]; rfl
  have HV := Lib.hid (show Blk w d 20 #[u] ∧ PVal w 0 (.iface 9 (.string s)) (.txt s) from ⟨hd, rfl⟩)
  have HZ := Lib.hid (oid_zz w d u 9 (.string s) hd)
  clear h hu hb hd hx
  go_enter Tryz.func232, Tryz.ntmps232
  go_wp2_with fail
  refine HZ.out.mono ?_
  rintro e w1 ⟨rfl, rfl⟩
  go_wp2
  go_ret
  exact get_end HV.out.1 HV.out.2
set_option maxRecDepth 100000 in
theorem oid_Get_middle_name {w : World} {B g : Nat} {S : List (ByteArray × PV)} (h : Hd 3 w B g S) {x : PV} (hx : lookG S ⟨#[109, 105, 100, 100, 108, 101, 95, 110, 97, 109, 101]⟩ = some x) {d : Nat} {u : Value} (hd : Blk w d 20 #[u]) :
    Calls Tryz.prog 232 #[.pointer (some ⟨g, 0, none⟩), .string ⟨#[109, 105, 100, 100, 108, 101, 95, 110, 97, 109, 101]⟩, .iface 163 (.pointer (some ⟨d, 0, none⟩))] w (GetP d x w) := by
  obtain ⟨cs, m, h⟩ := h
  obtain ⟨uc, hu, hc⟩ := h.fld _ (List.mem_of_getElem? (show (fldK 3)[9]? = some (⟨#[109, 105, 100, 100, 108, 101, 95, 110, 97, 109, 101]⟩, 10, 0) from rfl))
  rw [hx] at hc
  rcases hc with ⟨e, _⟩ | ⟨s, b, e, rfl, hb⟩
  · cases e
  injection e with e
  subst e
  have hc1 : w.cell? ⟨g, 10, none⟩ = some (.pointer (some ⟨b, 0, none⟩)) := by rw [h.blk.cell]; exact hu
  have hc2 : w.cell? ⟨b, 0, none⟩ = some (.string s) := by rw [hb.cell]; rfl
  have HV := Lib.hid (show Blk w d 20 #[u] ∧ PVal w 0 (.iface 9 (.string s)) (.txt s) from ⟨hd, rfl⟩)
  have HZ := Lib.hid (oid_zz w d u 9 (.string s) hd)
  clear h hu hb hd hx
  go_enter Tryz.func232, Tryz.ntmps232
  go_wp2_with fail
  refine HZ.out.mono ?_
  rintro e w1 ⟨rfl, rfl⟩
  go_wp2
  go_ret
  exact get_end HV.out.1 HV.out.2
set_option maxRecDepth 100000 in
theorem oid_Get_name {w : World} {B g : Nat} {S : List (ByteArray × PV)} (h : Hd 3 w B g S) {x : PV} (hx : lookG S ⟨#[110, 97, 109, 101]⟩ = some x) {d : Nat} {u : Value} (hd : Blk w d 20 #[u]) :
    Calls Tryz.prog 232 #[.pointer (some ⟨g, 0, none⟩), .string ⟨#[110, 97, 109, 101]⟩, .iface 163 (.pointer (some ⟨d, 0, none⟩))] w (GetP d x w) := by
  obtain ⟨cs, m, h⟩ := h
  obtain ⟨uc, hu, hc⟩ := h.fld _ (List.mem_of_getElem? (show (fldK 3)[10]? = some (⟨#[110, 97, 109, 101]⟩, 11, 0) from rfl))
  rw [hx] at hc
  rcases hc with ⟨e, _⟩ | ⟨s, b, e, rfl, hb⟩
  · cases e
  injection e with e
  subst e
  have hc1 : w.cell? ⟨g, 11, none⟩ = some (.pointer (some ⟨b, 0, none⟩)) := by rw [h.blk.cell]; exact hu
  have hc2 : w.cell? ⟨b, 0, none⟩ = some (.string s) := by rw [hb.cell]; rfl
  have HV := Lib.hid (show Blk w d 20 #[u] ∧ PVal w 0 (.iface 9 (.string s)) (.txt s) from ⟨hd, rfl⟩)
  have HZ := Lib.hid (oid_zz w d u 9 (.string s) hd)
  clear h hu hb hd hx
  go_enter Tryz.func232, Tryz.ntmps232
  go_wp2_with fail
  refine HZ.out.mono ?_
  rintro e w1 ⟨rfl, rfl⟩
  go_wp2
  go_ret
  exact get_end HV.out.1 HV.out.2
set_option maxRecDepth 100000 in
theorem oid_Get_nickname {w : World} {B g : Nat} {S : List (ByteArray × PV)} (h : Hd 3 w B g S) {x : PV} (hx : lookG S ⟨#[110, 105, 99, 107, 110, 97, 109, 101]⟩ = some x) {d : Nat} {u : Value} (hd : Blk w d 20 #[u]) :
    Calls Tryz.prog 232 #[.pointer (some ⟨g, 0, none⟩), .string ⟨#[110, 105, 99, 107, 110, 97, 109, 101]⟩, .iface 163 (.pointer (some ⟨d, 0, none⟩))] w (GetP d x w) := by
  obtain ⟨cs, m, h⟩ := h
  obtain ⟨uc, hu, hc⟩ := h.fld _ (List.mem_of_getElem? (show (fldK 3)[11]? = some (⟨#[110, 105, 99, 107, 110, 97, 109, 101]⟩, 12, 0) from rfl))
  rw [hx] at hc
  rcases hc with ⟨e, _⟩ | ⟨s, b, e, rfl, hb⟩
  · cases e
  injection e with e
  subst e
  have hc1 : w.cell? ⟨g, 12, none⟩ = some (.pointer (some ⟨b, 0, none⟩)) := by rw [h.blk.cell]; exact hu
  have hc2 : w.cell? ⟨b, 0, none⟩ = some (.string s) := by rw [hb.cell]; rfl
  have HV := Lib.hid (show Blk w d 20 #[u] ∧ PVal w 0 (.iface 9 (.string s)) (.txt s) from ⟨hd, rfl⟩)
  have HZ := Lib.hid (oid_zz w d u 9 (.string s) hd)
  clear h hu hb hd hx
  go_enter Tryz.func232, Tryz.ntmps232
  go_wp2_with fail
  refine HZ.out.mono ?_
  rintro e w1 ⟨rfl, rfl⟩
  go_wp2
  go_ret
  exact get_end HV.out.1 HV.out.2
set_option maxRecDepth 100000 in
theorem oid_Get_phone_number {w : World} {B g : Nat} {S : List (ByteArray × PV)} (h : Hd 3 w B g S) {x : PV} (hx : lookG S ⟨#[112, 104, 111, 110, 101, 95, 110, 117, 109, 98, 101, 114]⟩ = some x) {d : Nat} {u : Value} (hd : Blk w d 20 #[u]) :
    Calls Tryz.prog 232 #[.pointer (some ⟨g, 0, none⟩), .string ⟨#[112, 104, 111, 110, 101, 95, 110, 117, 109, 98, 101, 114]⟩, .iface 163 (.pointer (some ⟨d, 0, none⟩))] w (GetP d x w) := by
  obtain ⟨cs, m, h⟩ := h
  obtain ⟨uc, hu, hc⟩ := h.fld _ (List.mem_of_getElem? (show (fldK 3)[12]? = some (⟨#[112, 104, 111, 110, 101, 95, 110, 117, 109, 98, 101, 114]⟩, 13, 0) from rfl))
  rw [hx] at hc
  rcases hc with ⟨e, _⟩ | ⟨s, b, e, rfl, hb⟩
  · cases e
  injection e with e
  subst e
  have hc1 : w.cell? ⟨g, 13, none⟩ = some (.pointer (some ⟨b, 0, none⟩)) := by rw [h.blk.cell]; exact hu
  have hc2 : w.cell? ⟨b, 0, none⟩ = some (.string s) := by rw [hb.cell]; rfl
  have HV := Lib.hid (show Blk w d 20 #[u] ∧ PVal w 0 (.iface 9 (.string s)) (.txt s) from ⟨hd, rfl⟩)
  have HZ := Lib.hid (oid_zz w d u 9 (.string s) hd)
  clear h hu hb hd hx
  go_enter Tryz.func232, Tryz.ntmps232
  go_wp2_with fail
  refine HZ.out.mono ?_
  rintro e w1 ⟨rfl, rfl⟩
  go_wp2
  go_ret
  exact get_end HV.out.1 HV.out.2
set_option maxRecDepth 100000 in
theorem oid_Get_phone_number_verified {w : World} {B g : Nat} {S : List (ByteArray × PV)} (h : Hd 3 w B g S) {x : PV} (hx : lookG S ⟨#[112, 104, 111, 110, 101, 95, 110, 117, 109, 98, 101, 114, 95, 118, 101, 114, 105, 102, 105, 101, 100]⟩ = some x) {d : Nat} {u : Value} (hd : Blk w d 20 #[u]) :
    Calls Tryz.prog 232 #[.pointer (some ⟨g, 0, none⟩), .string ⟨#[112, 104, 111, 110, 101, 95, 110, 117, 109, 98, 101, 114, 95, 118, 101, 114, 105, 102, 105, 101, 100]⟩, .iface 163 (.pointer (some ⟨d, 0, none⟩))] w (GetP d x w) := by
  obtain ⟨cs, m, h⟩ := h
  obtain ⟨uc, hu, hc⟩ := h.fld _ (List.mem_of_getElem? (show (fldK 3)[13]? = some (⟨#[112, 104, 111, 110, 101, 95, 110, 117, 109, 98, 101, 114, 95, 118, 101, 114, 105, 102, 105, 101, 100]⟩, 14, 1) from rfl))
  rw [hx] at hc
  rcases hc with ⟨e, _⟩ | ⟨s, b, e, rfl, hb⟩
  · cases e
  injection e with e
  subst e
  have hc1 : w.cell? ⟨g, 14, none⟩ = some (.pointer (some ⟨b, 0, none⟩)) := by rw [h.blk.cell]; exact hu
  have hc2 : w.cell? ⟨b, 0, none⟩ = some (.bool s) := by rw [hb.cell]; rfl
  have HV := Lib.hid (show Blk w d 20 #[u] ∧ PVal w 0 (.iface 4 (.bool s)) (.tru s) from ⟨hd, rfl⟩)
  have HZ := Lib.hid (oid_zz w d u 4 (.bool s) hd)
  clear h hu hb hd hx
  go_enter Tryz.func232, Tryz.ntmps232
  go_wp2_with fail
  refine HZ.out.mono ?_
  rintro e w1 ⟨rfl, rfl⟩
  go_wp2
  go_ret
  exact get_end HV.out.1 HV.out.2
set_option maxRecDepth 100000 in
theorem oid_Get_picture {w : World} {B g : Nat} {S : List (ByteArray × PV)} (h : Hd 3 w B g S) {x : PV} (hx : lookG S ⟨#[112, 105, 99, 116, 117, 114, 101]⟩ = some x) {d : Nat} {u : Value} (hd : Blk w d 20 #[u]) :
    Calls Tryz.prog 232 #[.pointer (some ⟨g, 0, none⟩), .string ⟨#[112, 105, 99, 116, 117, 114, 101]⟩, .iface 163 (.pointer (some ⟨d, 0, none⟩))] w (GetP d x w) := by
  obtain ⟨cs, m, h⟩ := h
  obtain ⟨uc, hu, hc⟩ := h.fld _ (List.mem_of_getElem? (show (fldK 3)[14]? = some (⟨#[112, 105, 99, 116, 117, 114, 101]⟩, 15, 0) from rfl))
  rw [hx] at hc
  rcases hc with ⟨e, _⟩ | ⟨s, b, e, rfl, hb⟩
  · cases e
  injection e with e
  subst e
  have hc1 : w.cell? ⟨g, 15, none⟩ = some (.pointer (some ⟨b, 0, none⟩)) := by rw [h.blk.cell]; exact hu
  have hc2 : w.cell? ⟨b, 0, none⟩ = some (.string s) := by rw [hb.cell]; rfl
  have HV := Lib.hid (show Blk w d 20 #[u] ∧ PVal w 0 (.iface 9 (.string s)) (.txt s) from ⟨hd, rfl⟩)
  have HZ := Lib.hid (oid_zz w d u 9 (.string s) hd)
  clear h hu hb hd hx
  go_enter Tryz.func232, Tryz.ntmps232
  go_wp2_with fail
  refine HZ.out.mono ?_
  rintro e w1 ⟨rfl, rfl⟩
  go_wp2
  go_ret
  exact get_end HV.out.1 HV.out.2
set_option maxRecDepth 100000 in
theorem oid_Get_preferred_username {w : World} {B g : Nat} {S : List (ByteArray × PV)} (h : Hd 3 w B g S) {x : PV} (hx : lookG S ⟨#[112, 114, 101, 102, 101, 114, 114, 101, 100, 95, 117, 115, 101, 114, 110, 97, 109, 101]⟩ = some x) {d : Nat} {u : Value} (hd : Blk w d 20 #[u]) :
    Calls Tryz.prog 232 #[.pointer (some ⟨g, 0, none⟩), .string ⟨#[112, 114, 101, 102, 101, 114, 114, 101, 100, 95, 117, 115, 101, 114, 110, 97, 109, 101]⟩, .iface 163 (.pointer (some ⟨d, 0, none⟩))] w (GetP d x w) := by
  obtain ⟨cs, m, h⟩ := h
  obtain ⟨uc, hu, hc⟩ := h.fld _ (List.mem_of_getElem? (show (fldK 3)[15]? = some (⟨#[112, 114, 101, 102, 101, 114, 114, 101, 100, 95, 117, 115, 101, 114, 110, 97, 109, 101]⟩, 16, 0) from rfl))
  rw [hx] at hc
  rcases hc with ⟨e, _⟩ | ⟨s, b, e, rfl, hb⟩
  · cases e
  injection e with e
  subst e
  have hc1 : w.cell? ⟨g, 16, none⟩ = some (.pointer (some ⟨b, 0, none⟩)) := by rw [h.blk.cell]; exact hu
  have hc2 : w.cell? ⟨b, 0, none⟩ = some (.string s) := by rw [hb.cell]; rfl
  have HV := Lib.hid (show Blk w d 20 #[u] ∧ PVal w 0 (.iface 9 (.string s)) (.txt s) from ⟨hd, rfl⟩)
  have HZ := Lib.hid (oid_zz w d u 9 (.string s) hd)
  clear h hu hb hd hx
  go_enter Tryz.func232, Tryz.ntmps232
  go_wp2_with fail
  refine HZ.out.mono ?_
  rintro e w1 ⟨rfl, rfl⟩
  go_wp2
  go_ret
  exact get_end HV.out.1 HV.out.2
set_option maxRecDepth 100000 in
theorem oid_Get_profile {w : World} {B g : Nat} {S : List (ByteArray × PV)} (h : Hd 3 w B g S) {x : PV} (hx : lookG S ⟨#[112, 114, 111, 102, 105, 108, 101]⟩ = some x) {d : Nat} {u : Value} (hd : Blk w d 20 #[u]) :
    Calls Tryz.prog 232 #[.pointer (some ⟨g, 0, none⟩), .string ⟨#[112, 114, 111, 102, 105, 108, 101]⟩, .iface 163 (.pointer (some ⟨d, 0, none⟩))] w (GetP d x w) := by
  obtain ⟨cs, m, h⟩ := h
  obtain ⟨uc, hu, hc⟩ := h.fld _ (List.mem_of_getElem? (show (fldK 3)[16]? = some (⟨#[112, 114, 111, 102, 105, 108, 101]⟩, 17, 0) from rfl))
  rw [hx] at hc
  rcases hc with ⟨e, _⟩ | ⟨s, b, e, rfl, hb⟩
  · cases e
  injection e with e
  subst e
  have hc1 : w.cell? ⟨g, 17, none⟩ = some (.pointer (some ⟨b, 0, none⟩)) := by rw [h.blk.cell]; exact hu
  have hc2 : w.cell? ⟨b, 0, none⟩ = some (.string s) := by rw [hb.cell]; rfl
  have HV := Lib.hid (show Blk w d 20 #[u] ∧ PVal w 0 (.iface 9 (.string s)) (.txt s) from ⟨hd, rfl⟩)
  have HZ := Lib.hid (oid_zz w d u 9 (.string s) hd)
  clear h hu hb hd hx
  go_enter Tryz.func232, Tryz.ntmps232
  go_wp2_with fail
  refine HZ.out.mono ?_
  rintro e w1 ⟨rfl, rfl⟩
  go_wp2
  go_ret
  exact get_end HV.out.1 HV.out.2
set_option maxRecDepth 100000 in
theorem oid_Get_sub {w : World} {B g : Nat} {S : List (ByteArray × PV)} (h : Hd 3 w B g S) {x : PV} (hx : lookG S ⟨#[115, 117, 98]⟩ = some x) {d : Nat} {u : Value} (hd : Blk w d 20 #[u]) :
    Calls Tryz.prog 232 #[.pointer (some ⟨g, 0, none⟩), .string ⟨#[115, 117, 98]⟩, .iface 163 (.pointer (some ⟨d, 0, none⟩))] w (GetP d x w) := by
  obtain ⟨cs, m, h⟩ := h
  obtain ⟨uc, hu, hc⟩ := h.fld _ (List.mem_of_getElem? (show (fldK 3)[17]? = some (⟨#[115, 117, 98]⟩, 18, 0) from rfl))
  rw [hx] at hc
  rcases hc with ⟨e, _⟩ | ⟨s, b, e, rfl, hb⟩
  · cases e
  injection e with e
  subst e
  have hc1 : w.cell? ⟨g, 18, none⟩ = some (.pointer (some ⟨b, 0, none⟩)) := by rw [h.blk.cell]; exact hu
  have hc2 : w.cell? ⟨b, 0, none⟩ = some (.string s) := by rw [hb.cell]; rfl
  have HV := Lib.hid (show Blk w d 20 #[u] ∧ PVal w 0 (.iface 9 (.string s)) (.txt s) from ⟨hd, rfl⟩)
  have HZ := Lib.hid (oid_zz w d u 9 (.string s) hd)
  clear h hu hb hd hx
  go_enter Tryz.func232, Tryz.ntmps232
  go_wp2_with fail
  refine HZ.out.mono ?_
  rintro e w1 ⟨rfl, rfl⟩
  go_wp2
  go_ret
  exact get_end HV.out.1 HV.out.2
set_option maxRecDepth 100000 in
theorem oid_Get_website {w : World} {B g : Nat} {S : List (ByteArray × PV)} (h : Hd 3 w B g S) {x : PV} (hx : lookG S ⟨#[119, 101, 98, 115, 105, 116, 101]⟩ = some x) {d : Nat} {u : Value} (hd : Blk w d 20 #[u]) :
    Calls Tryz.prog 232 #[.pointer (some ⟨g, 0, none⟩), .string ⟨#[119, 101, 98, 115, 105, 116, 101]⟩, .iface 163 (.pointer (some ⟨d, 0, none⟩))] w (GetP d x w) := by
  obtain ⟨cs, m, h⟩ := h
  obtain ⟨uc, hu, hc⟩ := h.fld _ (List.mem_of_getElem? (show (fldK 3)[18]? = some (⟨#[119, 101, 98, 115, 105, 116, 101]⟩, 19, 0) from rfl))
  rw [hx] at hc
  rcases hc with ⟨e, _⟩ | ⟨s, b, e, rfl, hb⟩
  · cases e
  injection e with e
  subst e
  have hc1 : w.cell? ⟨g, 19, none⟩ = some (.pointer (some ⟨b, 0, none⟩)) := by rw [h.blk.cell]; exact hu
  have hc2 : w.cell? ⟨b, 0, none⟩ = some (.string s) := by rw [hb.cell]; rfl
  have HV := Lib.hid (show Blk w d 20 #[u] ∧ PVal w 0 (.iface 9 (.string s)) (.txt s) from ⟨hd, rfl⟩)
  have HZ := Lib.hid (oid_zz w d u 9 (.string s) hd)
  clear h hu hb hd hx
  go_enter Tryz.func232, Tryz.ntmps232
  go_wp2_with fail
  refine HZ.out.mono ?_
  rintro e w1 ⟨rfl, rfl⟩
  go_wp2
  go_ret
  exact get_end HV.out.1 HV.out.2
set_option maxRecDepth 100000 in
theorem oid_Get_zoneinfo {w : World} {B g : Nat} {S : List (ByteArray × PV)} (h : Hd 3 w B g S) {x : PV} (hx : lookG S ⟨#[122, 111, 110, 101, 105, 110, 102, 111]⟩ = some x) {d : Nat} {u : Value} (hd : Blk w d 20 #[u]) :
    Calls Tryz.prog 232 #[.pointer (some ⟨g, 0, none⟩), .string ⟨#[122, 111, 110, 101, 105, 110, 102, 111]⟩, .iface 163 (.pointer (some ⟨d, 0, none⟩))] w (GetP d x w) := by
  obtain ⟨cs, m, h⟩ := h
  obtain ⟨uc, hu, hc⟩ := h.fld _ (List.mem_of_getElem? (show (fldK 3)[19]? = some (⟨#[122, 111, 110, 101, 105, 110, 102, 111]⟩, 20, 0) from rfl))
  rw [hx] at hc
  rcases hc with ⟨e, _⟩ | ⟨s, b, e, rfl, hb⟩
  · cases e
  injection e with e
  subst e
  have hc1 : w.cell? ⟨g, 20, none⟩ = some (.pointer (some ⟨b, 0, none⟩)) := by rw [h.blk.cell]; exact hu
  have hc2 : w.cell? ⟨b, 0, none⟩ = some (.string s) := by rw [hb.cell]; rfl
  have HV := Lib.hid (show Blk w d 20 #[u] ∧ PVal w 0 (.iface 9 (.string s)) (.txt s) from ⟨hd, rfl⟩)
  have HZ := Lib.hid (oid_zz w d u 9 (.string s) hd)
  clear h hu hb hd hx
  go_enter Tryz.func232, Tryz.ntmps232
  go_wp2_with fail
  refine HZ.out.mono ?_
  rintro e w1 ⟨rfl, rfl⟩
  go_wp2
  go_ret
  exact get_end HV.out.1 HV.out.2
set_option maxRecDepth 100000 in
theorem oid_Get {w : World} {B g : Nat} {S : List (ByteArray × PV)} (h : Hd 3 w B g S) {n : ByteArray} (hr : n ∉ othL 3) {x : PV} (hx : lookG S n = some x) {d : Nat} {u : Value} (hd : Blk w d 20 #[u]) :
    Calls Tryz.prog 232 #[.pointer (some ⟨g, 0, none⟩), .string n, .iface 163 (.pointer (some ⟨d, 0, none⟩))] w (GetP d x w) := by
  cases hk : isK 3 n with
  | false => exact oid_Get_rest h ⟨hk, hr⟩ hx hd
  | true =>
    obtain ⟨f, hf, rfl⟩ := isK_iff.1 hk
    simp only [fldK, List.mem_cons, List.not_mem_nil] at hf
    rcases hf with rfl | rfl | rfl | rfl | rfl | rfl | rfl | rfl | rfl | rfl | rfl | rfl | rfl | rfl | rfl | rfl | rfl | rfl | rfl | rfl | hf
    · exact oid_Get_aud h hx hd
    · exact oid_Get_email h hx hd
    · exact oid_Get_email_verified h hx hd
    · exact oid_Get_family_name h hx hd
    · exact oid_Get_gender h hx hd
    · exact oid_Get_given_name h hx hd
    · exact oid_Get_iss h hx hd
    · exact oid_Get_jti h hx hd
    · exact oid_Get_locale h hx hd
    · exact oid_Get_middle_name h hx hd
    · exact oid_Get_name h hx hd
    · exact oid_Get_nickname h hx hd
    · exact oid_Get_phone_number h hx hd
    · exact oid_Get_phone_number_verified h hx hd
    · exact oid_Get_picture h hx hd
    · exact oid_Get_preferred_username h hx hd
    · exact oid_Get_profile h hx hd
    · exact oid_Get_sub h hx hd
    · exact oid_Get_website h hx hd
    · exact oid_Get_zoneinfo h hx hd
    · exact absurd hf id
end Go.Proofs.YtapjbdigpleekaaGreat.Mp
