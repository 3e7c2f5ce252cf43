import Derived.Test.YtapjbdigpleekaaGreatGF
import Derived.Test.YtapjbdigpleekaaGreatGG
import Derived.Test.YtapjbdigpleekaaGreatGH
import Derived.Test.YtapjbdigpleekaaGreatGI
import Derived.Test.YtapjbdigpleekaaGreatGJ
import Derived.Test.YtapjbdigpleekaaGreatGK
import Derived.Deep.LoopGhost
import Derived.Test.YtapjbdigpleekaaGreatGO
/- Keys, Get, impl.known of the four kinds joined; what an interface's method comes to. -/
set_option linter.unusedVariables false
set_option linter.unusedSimpArgs false
namespace Go.Proofs.YtapjbdigpleekaaGreat.Mp
open Go.RowKit Go.Proofs.YtapjbdigpleekaaGreat.K Go.Proofs.YtapjbdigpleekaaGreat.Cl
def fKeys (k : Nat) : Nat := match k with | 0 => 173 | 1 => 210 | 2 => 264 | _ => 237
def fGet (k : Nat) : Nat := match k with | 0 => 169 | 1 => 206 | 2 => 260 | _ => 232
def ptK (k : Nat) : Nat := match k with | 0 => 186 | 1 => 192 | 2 => 206 | _ => 199
def ordK (k : Nat) : List ByteArray := match k with | 0 => ord_jws | 1 => ord_jwe | 2 => ord_jwt | _ => ord_oid
section
variable {k : Nat} {w : World} {B g : Nat} {S : List (ByteArray × PV)} {n : ByteArray} {v : Value} {x : PV}
theorem Keys_calls (hk : k < 4) (h : Hd k w B g S) (hS : S.length ≤ 100000) : Calls Tryz.prog (fKeys k) #[.pointer (some ⟨g, 0, none⟩)] w (KeysP w (S.map (·.1))) := by
  rcases (by omega : k = 0 ∨ k = 1 ∨ k = 2 ∨ k = 3) with rfl | rfl | rfl | rfl
  · exact jws_Keys h hS
  · exact jwe_Keys h hS
  · exact jwt_Keys h hS
  · exact oid_Keys h hS
theorem Get_calls (hk : k < 4) (h : Hd k w B g S) (hr : n ∉ othL k) (hx : lookG S n = some x) {d : Nat} {u : Value} (hd : Blk w d 20 #[u]) :
    Calls Tryz.prog (fGet k) #[.pointer (some ⟨g, 0, none⟩), .string n, .iface 163 (.pointer (some ⟨d, 0, none⟩))] w (GetP d x w) := by
  rcases (by omega : k = 0 ∨ k = 1 ∨ k = 2 ∨ k = 3) with rfl | rfl | rfl | rfl
  · exact jws_Get h hr hx hd
  · exact jwe_Get h hr hx hd
  · exact jwt_Get h hr hx hd
  · exact oid_Get h hr hx hd
theorem known_calls (hk : k < 4) (h : Hd k w B g S) : Calls Tryz.prog 101 #[.iface (ptK k) (.pointer (some ⟨g, 0, none⟩))] w (KnownP S (ordK k) w) := by
  rcases (by omega : k = 0 ∨ k = 1 ∨ k = 2 ∨ k = 3) with rfl | rfl | rfl | rfl
  · exact jws_known h
  · exact jwe_known h
  · exact jwt_known h
  · exact oid_known h
theorem ord_iff (hk : k < 4) (n : ByteArray) : n ∈ ordK k ↔ isK k n = true := by
  have h1 : ∀ l m : List ByteArray, (l.all fun a => m.any fun b => decide (b = a)) = true → ∀ a ∈ l, a ∈ m := by
    intro l m h a ha
    obtain ⟨b, hb, e⟩ := List.any_eq_true.1 (List.all_eq_true.1 h a ha)
    rw [← of_decide_eq_true e]; exact hb
  have h2 : isK k n = true ↔ n ∈ (fldK k).map (·.1) := by rw [isK_iff, List.mem_map]
  rw [h2]
  rcases (by omega : k = 0 ∨ k = 1 ∨ k = 2 ∨ k = 3) with rfl | rfl | rfl | rfl
  · exact ⟨h1 _ _ (by kernel_rfl) n, h1 _ _ (by kernel_rfl) n⟩
  · exact ⟨h1 _ _ (by kernel_rfl) n, h1 _ _ (by kernel_rfl) n⟩
  · exact ⟨h1 _ _ (by kernel_rfl) n, h1 _ _ (by kernel_rfl) n⟩
  · exact ⟨h1 _ _ (by kernel_rfl) n, h1 _ _ (by kernel_rfl) n⟩
theorem mKeys (hk : k < 4) (W : World) : Sem.run Tryz.prog (nilAhead 399 (ptK k) (.pointer (some ⟨g, 0, none⟩)) "Keys") W = .ok (some false) W ∧ (method 399 (ptK k) (.pointer (some ⟨g, 0, none⟩)) "Keys").run Tryz.prog W = .ok (fKeys k, .pointer (some ⟨g, 0, none⟩)) W ∧ ∀ args, (callFunc (fKeys k) args).run Tryz.prog W = .ok (.enter (fKeys k) args) W := by
  rcases (by omega : k = 0 ∨ k = 1 ∨ k = 2 ∨ k = 3) with rfl | rfl | rfl | rfl
  · exact ⟨by kernel_rfl, by kernel_rfl, fun args => by kernel_rfl⟩
  · exact ⟨by kernel_rfl, by kernel_rfl, fun args => by kernel_rfl⟩
  · exact ⟨by kernel_rfl, by kernel_rfl, fun args => by kernel_rfl⟩
  · exact ⟨by kernel_rfl, by kernel_rfl, fun args => by kernel_rfl⟩
theorem mGet (hk : k < 4) (W : World) : Sem.run Tryz.prog (nilAhead 399 (ptK k) (.pointer (some ⟨g, 0, none⟩)) "Get") W = .ok (some false) W ∧ (method 399 (ptK k) (.pointer (some ⟨g, 0, none⟩)) "Get").run Tryz.prog W = .ok (fGet k, .pointer (some ⟨g, 0, none⟩)) W ∧ ∀ args, (callFunc (fGet k) args).run Tryz.prog W = .ok (.enter (fGet k) args) W := by
  rcases (by omega : k = 0 ∨ k = 1 ∨ k = 2 ∨ k = 3) with rfl | rfl | rfl | rfl
  · exact ⟨by kernel_rfl, by kernel_rfl, fun args => by kernel_rfl⟩
  · exact ⟨by kernel_rfl, by kernel_rfl, fun args => by kernel_rfl⟩
  · exact ⟨by kernel_rfl, by kernel_rfl, fun args => by kernel_rfl⟩
  · exact ⟨by kernel_rfl, by kernel_rfl, fun args => by kernel_rfl⟩
theorem mSet (hk : k < 4) (W : World) : Sem.run Tryz.prog (nilAhead 399 (ptK k) (.pointer (some ⟨g, 0, none⟩)) "Set") W = .ok (some false) W ∧ (method 399 (ptK k) (.pointer (some ⟨g, 0, none⟩)) "Set").run Tryz.prog W = .ok (fSet k, .pointer (some ⟨g, 0, none⟩)) W ∧ ∀ args, (callFunc (fSet k) args).run Tryz.prog W = .ok (.enter (fSet k) args) W := by
  rcases (by omega : k = 0 ∨ k = 1 ∨ k = 2 ∨ k = 3) with rfl | rfl | rfl | rfl
  · exact ⟨by kernel_rfl, by kernel_rfl, fun args => by kernel_rfl⟩
  · exact ⟨by kernel_rfl, by kernel_rfl, fun args => by kernel_rfl⟩
  · exact ⟨by kernel_rfl, by kernel_rfl, fun args => by kernel_rfl⟩
  · exact ⟨by kernel_rfl, by kernel_rfl, fun args => by kernel_rfl⟩
theorem mHas (hk : k < 4) (W : World) : Sem.run Tryz.prog (nilAhead 399 (ptK k) (.pointer (some ⟨g, 0, none⟩)) "Has") W = .ok (some false) W ∧ (method 399 (ptK k) (.pointer (some ⟨g, 0, none⟩)) "Has").run Tryz.prog W = .ok (fHas k, .pointer (some ⟨g, 0, none⟩)) W ∧ ∀ args, (callFunc (fHas k) args).run Tryz.prog W = .ok (.enter (fHas k) args) W := by
  rcases (by omega : k = 0 ∨ k = 1 ∨ k = 2 ∨ k = 3) with rfl | rfl | rfl | rfl
  · exact ⟨by kernel_rfl, by kernel_rfl, fun args => by kernel_rfl⟩
  · exact ⟨by kernel_rfl, by kernel_rfl, fun args => by kernel_rfl⟩
  · exact ⟨by kernel_rfl, by kernel_rfl, fun args => by kernel_rfl⟩
  · exact ⟨by kernel_rfl, by kernel_rfl, fun args => by kernel_rfl⟩
theorem mRemove (hk : k < 4) (W : World) : Sem.run Tryz.prog (nilAhead 399 (ptK k) (.pointer (some ⟨g, 0, none⟩)) "Remove") W = .ok (some false) W ∧ (method 399 (ptK k) (.pointer (some ⟨g, 0, none⟩)) "Remove").run Tryz.prog W = .ok (fRem k, .pointer (some ⟨g, 0, none⟩)) W ∧ ∀ args, (callFunc (fRem k) args).run Tryz.prog W = .ok (.enter (fRem k) args) W := by
  rcases (by omega : k = 0 ∨ k = 1 ∨ k = 2 ∨ k = 3) with rfl | rfl | rfl | rfl
  · exact ⟨by kernel_rfl, by kernel_rfl, fun args => by kernel_rfl⟩
  · exact ⟨by kernel_rfl, by kernel_rfl, fun args => by kernel_rfl⟩
  · exact ⟨by kernel_rfl, by kernel_rfl, fun args => by kernel_rfl⟩
  · exact ⟨by kernel_rfl, by kernel_rfl, fun args => by kernel_rfl⟩
end
end Go.Proofs.YtapjbdigpleekaaGreat.Mp

/- slices.IndexFunc over fields with a closure that asks for a name; the conditions are on what lies in memory. -/
set_option linter.unusedVariables false
set_option linter.unusedSimpArgs false
namespace Go.Proofs.YtapjbdigpleekaaGreat.Mp
open Go.RowKit Go.Proofs.YtapjbdigpleekaaGreat.K Go.Proofs.YtapjbdigpleekaaGreat.Cl
/-- A field as an argument. -/
abbrev fdV (f : Cl.Fd) : Value := .agg #[.string f.name, .int .i64 f.k, .string f.t, .bool f.b, .int .i32 f.z, .slice f.A f.n f.c]
theorem str_dec (x y : ByteArray) : (x.toList == y.toList) = decide (x = y) := by
  by_cases h : x = y
  · subst h; simp
  · rw [str_ne h, decide_eq_false h]
/-- The first that is so. -/
def ixL (p : Cl.Fd → Bool) (l : List Cl.Fd) : Int := match l.findIdx? p with | some i => i | none => -1
theorem ixL_at {p : Cl.Fd → Bool} {l : List Cl.Fd} {j : Nat} (hj : j < l.length) (h : p l[j] = true) (hb : ∀ y ∈ l.take j, p y = false) : ixL p l = j := by
  unfold ixL
  rw [List.findIdx?_eq_some_iff_getElem.2 ⟨hj, h, fun i hi => by
    have : l[i]'(by omega) ∈ l.take j := by
      rw [List.mem_take_iff_getElem]
      exact ⟨i, by omega, rfl⟩
    rw [hb _ this]; simp⟩]
theorem ixL_no {p : Cl.Fd → Bool} {l : List Cl.Fd} (h : ∀ y ∈ l, p y = false) : ixL p l = -1 := by
  unfold ixL
  rw [List.findIdx?_eq_none_iff.2 h]
def BoolB (w : World) (b : Bool) (e : Ending) (w' : World) : Prop := e = .returned (.bool b) ∧ Below w.heap.size w w'
theorem told1_calls (w : World) (f : Cl.Fd) (nb : Nat) (nm : ByteArray) (hb : Blk w nb 9 #[.string nm]) : Calls Tryz.prog 103 #[fdV f, .pointer (some ⟨nb, 0, none⟩)] w (BoolB w (decide (f.name = nm))) := by
  obtain ⟨nm1, k, t, b, z, A1, n1, c1, l1⟩ := f
  have hb1 := hb.alloc (.cells #[.string nm1, .int .i64 k, .string t, .bool b, .int .i32 z, .slice A1 n1 c1] 45)
  have hc : (w.alloc (.cells #[.string nm1, .int .i64 k, .string t, .bool b, .int .i32 z, .slice A1 n1 c1] 45)).cell? ⟨nb, 0, none⟩ = some (.string nm) := by rw [hb1.cell]; rfl
  have HB := Lib.hid (below_alloc' (Below.refl w.heap.size w) (.cells #[.string nm1, .int .i64 k, .string t, .bool b, .int .i32 z, .slice A1 n1 c1] 45))
  obtain ⟨r, hr⟩ : ∃ r, r = decide (nm1 = nm) := ⟨_, rfl⟩
  have hs := str_dec nm1 nm
  rw [← hr] at hs
  simp only
  rw [← hr]
  clear hr hb hb1
  go_enter Tryz.func103, Tryz.ntmps103
  go_wp2
  go_ret
  exact ⟨rfl, HB.out⟩
set_option maxRecDepth 100000 in
set_option maxHeartbeats 1000000 in
theorem IndexF_told {w : World} {cap : Array Value} {A : Option Addr} {n c : Nat} {l : List Cl.Fd} (h : FL w A n l) (hn : n ≤ 100000) (p : Cl.Fd → Bool)
    (hF : ∀ (W : World), Below w.heap.size w W → ∀ z ∈ l, Calls Tryz.prog 103 (#[fdV z] ++ cap) W (BoolB W (p z))) :
    Calls Tryz.prog 102 #[.slice A n c, .func (.func 103) #[] cap] w fun e w' => e = .returned (.int .i64 (ixL p l)) ∧ Below w.heap.size w w' := by
  have HLN := Lib.hid h.len
  have HF := Lib.hid hF
  have HB0 := Lib.hid (Below.refl w.heap.size w)
  clear hF
  go_enter Tryz.func102, Tryz.ntmps102
  go_wp2
  go_loopg [8] n (fun q u wr => ∃ j : Nat, q + j = n ∧ u = .int .i64 j ∧ Hid (Below w.heap.size w wr) ∧ Hid (∀ y ∈ l.take j, p y = false))
  case atStart => exact ⟨0, rfl, rfl, HB0, Lib.hid (by simp)⟩
  case round =>
    obtain ⟨j, hqj, rfl, HB, HP⟩ := hrel
    by_cases hj : j < n
    · have hjl : j < l.length := by have := HLN.out; omega
      obtain ⟨ad, hA, x0, x1, x2, x3, x4, x5, _⟩ := (h.below HB.out (Nat.le_refl _)).at_ hjl
      subst hA
      have HCL := Lib.hid (HF.out wr HB.out l[j] (List.getElem_mem _))
      have HST : Hid (∀ y ∈ l.take (j + 1), y ∈ l.take j ∨ y = l[j]) := Lib.hid (fun z hz => by
        rw [List.take_succ_eq_append_getElem hjl] at hz
        rcases List.mem_append.1 hz with hz | hz
        · exact .inl hz
        · exact .inr (List.mem_singleton.1 hz))
      obtain ⟨y, hy⟩ : ∃ y, y = l[j] := ⟨_, rfl⟩
      rw [← hy] at x0 x1 x2 x3 x4 x5 HCL HST
      have HY := Lib.hid hy
      clear hy
      obtain ⟨b, hb⟩ : ∃ b, b = p y := ⟨_, rfl⟩
      rw [← hb] at HCL
      have HBV := Lib.hid hb
      clear hb h
      cases b with
      | true =>
        go_wp2_with (go_at_call 103; refine Calls.mono HCL.out ?_; rintro e w1 ⟨rfl, hb1⟩; have HB1 := Lib.hid (HB.out.trans (hb1.mono HB.out.size)); clear hb1)
        go_ret
        exact ⟨(by rw [ixL_at hjl (by rw [← HY.out]; exact HBV.out.symm) HP.out]; rfl), HB1.out⟩
      | false =>
        go_wp2_with (go_at_call 103; refine Calls.mono HCL.out ?_; rintro e w1 ⟨rfl, hb1⟩; have HB1 := Lib.hid (HB.out.trans (hb1.mono HB.out.size)); clear hb1)
        go_roundg (n - (j + 1))
        case measure => omega
        case rel =>
          refine ⟨j + 1, by omega, by go_num, HB1, Lib.hid ?_⟩
          intro z hz
          rcases HST.out z hz with hz | hz
          · exact HP.out z hz
          · rw [hz]
            exact HBV.out.symm
    · have hlt : ¬ (j : Int) < (n : Int) := by omega
      go_wp2
      go_ret
      have hall : ∀ y ∈ l, p y = false := fun y hy => HP.out y (by rw [List.take_of_length_le (by have := HLN.out; omega)]; exact hy)
      exact ⟨(by rw [ixL_no hall]; rfl), HB.out⟩
set_option maxRecDepth 100000 in
set_option maxHeartbeats 1000000 in
theorem IndexF_last {w : World} {cap : Array Value} {A : Option Addr} {n c : Nat} {l : List Cl.Fd} (h : FL w A n l) (hn : n ≤ 100000) (p : Cl.Fd → Bool)
    (hF : ∀ (W : World), Below w.heap.size w W → ∀ z ∈ l, Calls Tryz.prog 78 (#[fdV z] ++ cap) W (BoolB W (p z))) :
    Calls Tryz.prog 102 #[.slice A n c, .func (.func 78) #[] cap] w fun e w' => e = .returned (.int .i64 (ixL p l)) ∧ Below w.heap.size w w' := by
  have HLN := Lib.hid h.len
  have HF := Lib.hid hF
  have HB0 := Lib.hid (Below.refl w.heap.size w)
  clear hF
  go_enter Tryz.func102, Tryz.ntmps102
  go_wp2
  go_loopg [8] n (fun q u wr => ∃ j : Nat, q + j = n ∧ u = .int .i64 j ∧ Hid (Below w.heap.size w wr) ∧ Hid (∀ y ∈ l.take j, p y = false))
  case atStart => exact ⟨0, rfl, rfl, HB0, Lib.hid (by simp)⟩
  case round =>
    obtain ⟨j, hqj, rfl, HB, HP⟩ := hrel
    by_cases hj : j < n
    · have hjl : j < l.length := by have := HLN.out; omega
      obtain ⟨ad, hA, x0, x1, x2, x3, x4, x5, _⟩ := (h.below HB.out (Nat.le_refl _)).at_ hjl
      subst hA
      have HCL := Lib.hid (HF.out wr HB.out l[j] (List.getElem_mem _))
      have HST : Hid (∀ y ∈ l.take (j + 1), y ∈ l.take j ∨ y = l[j]) := Lib.hid (fun z hz => by
        rw [List.take_succ_eq_append_getElem hjl] at hz
        rcases List.mem_append.1 hz with hz | hz
        · exact .inl hz
        · exact .inr (List.mem_singleton.1 hz))
      obtain ⟨y, hy⟩ : ∃ y, y = l[j] := ⟨_, rfl⟩
      rw [← hy] at x0 x1 x2 x3 x4 x5 HCL HST
      have HY := Lib.hid hy
      clear hy
      obtain ⟨b, hb⟩ : ∃ b, b = p y := ⟨_, rfl⟩
      rw [← hb] at HCL
      have HBV := Lib.hid hb
      clear hb h
      cases b with
      | true =>
        go_wp2_with (go_at_call 78; refine Calls.mono HCL.out ?_; rintro e w1 ⟨rfl, hb1⟩; have HB1 := Lib.hid (HB.out.trans (hb1.mono HB.out.size)); clear hb1)
        go_ret
        exact ⟨(by rw [ixL_at hjl (by rw [← HY.out]; exact HBV.out.symm) HP.out]; rfl), HB1.out⟩
      | false =>
        go_wp2_with (go_at_call 78; refine Calls.mono HCL.out ?_; rintro e w1 ⟨rfl, hb1⟩; have HB1 := Lib.hid (HB.out.trans (hb1.mono HB.out.size)); clear hb1)
        go_roundg (n - (j + 1))
        case measure => omega
        case rel =>
          refine ⟨j + 1, by omega, by go_num, HB1, Lib.hid ?_⟩
          intro z hz
          rcases HST.out z hz with hz | hz
          · exact HP.out z hz
          · rw [hz]
            exact HBV.out.symm
    · have hlt : ¬ (j : Int) < (n : Int) := by omega
      go_wp2
      go_ret
      have hall : ∀ y ∈ l, p y = false := fun y hy => HP.out y (by rw [List.take_of_length_le (by have := HLN.out; omega)]; exact hy)
      exact ⟨(by rw [ixL_no hall]; rfl), HB.out⟩
end Go.Proofs.YtapjbdigpleekaaGreat.Mp

/- The sort by names of a row of fields of one's own; the condition is on its length alone. -/
set_option linter.unusedVariables false
set_option linter.unusedSimpArgs false
namespace Go.Proofs.YtapjbdigpleekaaGreat.Mp
open Go.RowKit Go.Proofs.YtapjbdigpleekaaGreat.K Go.Proofs.YtapjbdigpleekaaGreat.Cl Go.Sort Go.Lib Go.Proofs Go.Proofs.YtapjbdigpleekaaGreat.St
instance : Inhabited Cl.Fd := ⟨⟨ByteArray.empty, 0, ByteArray.empty, false, 0, none, 0, 0, []⟩⟩
theorem fc_len (f : Cl.Fd) : (fc f).length = 6 := rfl
theorem flat_get (fs : List Cl.Fd) (t : Nat) (h : t < fs.length * 6) : (fvs fs)[t]? = some ((flatK fc 6 fs.toArray)[t]!) := by
  have hj : t / 6 < fs.length := by omega
  have e := fvs_at fs (t / 6) (t % 6) hj (Nat.mod_lt _ (by decide))
  rw [show t / 6 * 6 + t % 6 = t by omega] at e
  rw [e, get_flatK fc 6 fs.toArray t (by simpa using h), List.getElem?_eq_getElem (by rw [fc_len]; omega)]
  congr 1
  rw [getElem!_pos _ _ (by rw [List.getElem!_toArray, List.getElem!_eq_getElem?_getD, List.getElem?_eq_getElem hj]; exact Nat.mod_lt _ (by decide))]
  congr 1
  rw [List.getElem!_toArray, List.getElem!_eq_getElem?_getD, List.getElem?_eq_getElem hj]; rfl
theorem flat_list (fs : List Cl.Fd) : (flatK fc 6 fs.toArray).toList = fvs fs := by
  apply List.ext_getElem?
  intro t
  by_cases h : t < fs.length * 6
  · rw [flat_get fs t h, Array.getElem?_toList, getElem!_pos _ t (by simpa using h), Array.getElem?_eq_getElem (by simpa using h)]
  · rw [List.getElem?_eq_none (by simp; omega), List.getElem?_eq_none (by rw [fvs_len]; omega)]
theorem fo_holds {w : World} {B c n : Nat} {ad : Addr} {fs : List Cl.Fd} (h : FO w B (.slice (some ad) n c) fs) :
    ∃ g cur, ad = ⟨g, 0, none⟩ ∧ B ≤ g ∧ n = fs.length ∧ w.heap[g]? = some (.cells cur 45 (0, 0)) ∧ fs.length ≤ c ∧ c ≤ maxLen ∧ cur.size = c * 6 ∧ cur.toList.take (fs.length * 6) = fvs fs ∧ HoldsK fc 6 w g 0 fs.toArray := by
  rcases h.1.2 with ⟨e, _⟩ | ⟨g, cap, cur, e, hb, hh, hc, hm, hs, ht⟩
  · cases e
  · injection e with e1 e2 e3
    injection e1 with e1
    refine ⟨g, cur, e1, hb, e2, hh, by omega, by omega, by rw [hs, e3], ht, ?_⟩
    intro j hj
    have hj' : j < fs.length * 6 := by simpa using hj
    have hc1 : w.cell? ⟨g, 0 + j, none⟩ = cur[0 + j]? := cell_of_row w g (0 + j) cur _ (0, 0) hh
    refine ⟨?_, ?_⟩
    · rw [hc1, Nat.zero_add]
      have e4 : (cur.toList.take (fs.length * 6))[j]? = some ((flatK fc 6 fs.toArray)[j]!) := by rw [ht]; exact flat_get fs j hj'
      rw [List.getElem?_take, if_pos hj', Array.getElem?_toList] at e4
      exact e4
    · simp [World.frozen?, hh]
theorem put_take (F cur : Array Value) (h : F.size ≤ cur.size) : (putCells id 0 F cur).toList.take F.size = F.toList := by
  apply List.ext_getElem?
  intro t
  rw [List.getElem?_take]
  by_cases ht : t < F.size
  · rw [if_pos ht, Array.getElem?_toList, Array.getElem?_toList]
    unfold putCells
    rw [Array.getElem?_mapIdx, Array.getElem?_eq_getElem (by omega)]
    simp [ht]
  · rw [if_neg ht, List.getElem?_eq_none (by simp; omega)]
theorem fo_sorted {w : World} {B g c m : Nat} {fs ds : List Cl.Fd} {cur : Array Value} {os : Array Obj} (hh : w.heap[g]? = some (.cells cur 45 (0, 0))) (hB : B ≤ g) (hl : ds.length = fs.length) (hc : fs.length ≤ c) (hm : c ≤ maxLen) (hs : cur.size = c * 6) (hf : ∀ f ∈ ds, FdO w f) :
    FO (sortWorldK fc 6 w g 0 m ds.toArray os) B (.slice (some ⟨g, 0, none⟩) ds.length c) ds ∧ w.grownBy (sortWorldK fc 6 w g 0 m ds.toArray os) (some g) := by
  have hlt : g < w.heap.size := (Array.getElem?_eq_some_iff.1 hh).1
  have hsz : (sortWorldK fc 6 w g 0 m ds.toArray os).heap = (w.heap.modify g (onCells (putCells id 0 (flatK fc 6 ds.toArray)))) ++ os := rfl
  have hgr : w.grownBy (sortWorldK fc 6 w g 0 m ds.toArray os) (some g) := by
    refine ⟨rfl, rfl, rfl, by rw [hsz]; simp, fun k hk hne => ?_⟩
    rw [hsz, Array.getElem?_append_left (by simpa using hk), Array.getElem?_modify, if_neg (fun e => hne (by rw [e]))]
  have hg2 : (sortWorldK fc 6 w g 0 m ds.toArray os).heap[g]? = some (.cells (putCells id 0 (flatK fc 6 ds.toArray) cur) 45 (0, 0)) := by
    rw [hsz, Array.getElem?_append_left (by simpa using hlt), Array.getElem?_modify, if_pos rfl, hh]; rfl
  refine ⟨⟨⟨by rw [fvs_len], .inr ⟨g, c, _, rfl, hB, hg2, by omega, hm, by simp [putCells, hs], ?_⟩⟩, fun f h => ?_⟩, hgr⟩
  · have := put_take (flatK fc 6 ds.toArray) cur (by rw [size_flatK, hs]; simp; omega)
    rw [size_flatK, flat_list] at this
    simpa using this
  · refine (hf f h).grown hgr (fun b cs T z hb hT e => ?_)
    injection e with e
    subst e
    rw [hh] at hb
    injection hb with hb
    injection hb with _ h2
    rcases hT with hT | ⟨hT, _⟩ <;> (rw [← h2] at hT; exact absurd hT (by decide))
/-- The names ascend. -/
def SortedN (fs : List Cl.Fd) : Prop := fs.Pairwise fun x y => ¬ y.name.data.toList < x.name.data.toList
def SrtP (w : World) (B : Nat) (A : Option Addr) (n c : Nat) (fs : List Cl.Fd) (e : Ending) (w' : World) : Prop := e = .returned (.tuple #[]) ∧ ∃ fs', FO w' B (.slice A n c) fs' ∧ fs'.Perm fs ∧ SortedN fs' ∧ w.grownBy w' (Value.slice A n c).ownBlock
theorem Sort_some {w : World} {B n c : Nat} {ad : Addr} {fs : List Cl.Fd} (h : FO w B (.slice (some ad) n c) fs) (hN : fs.length ≤ 100000) :
    Calls Tryz.prog 105 #[.slice (some ad) n c, .func (.func 106) #[] #[]] w (SrtP w B (some ad) n c fs) := by
  obtain ⟨g, cur, rfl, hB, rfl, hh, hc, hm, hs, ht, hH⟩ := fo_holds h
  have hlt : g < w.heap.size := (Array.getElem?_eq_some_iff.1 hh).1
  have key := SortNames_calls (enc := fc) (nm := Cl.Fd.name) (fun x => ⟨_, _, _, _, _, rfl⟩) fcs_one c fs.toArray (by simpa using hN) hlt hH
  simp only [List.size_toArray] at key
  refine key.mono ?_
  rintro e w' ⟨rfl, q, d', os', rfl, hp, hsrt⟩
  obtain ⟨hp1, _, hp3⟩ := hp
  have hl : d'.toList.length = fs.length := by simpa using hp1
  have hperm : d'.toList.Perm fs := by
    have e1 : d'.extract 0 fs.length = d' := by rw [← hl, Array.length_toList, Array.extract_size]
    have e2 : fs.toArray.extract 0 fs.length = fs.toArray := by
      simp
    rw [e1, e2] at hp3
    exact hp3
  have hfs : ∀ f ∈ d'.toList, FdO w f := fun f hf => h.2 f (hperm.mem_iff.1 hf)
  obtain ⟨h1, h2⟩ := fo_sorted (m := q) (os := os') hh hB hl hc hm hs hfs
  have ed : d'.toList.toArray = d' := by simp
  rw [ed, hl] at h1
  rw [ed] at h2
  refine ⟨rfl, d'.toList, h1, hperm, ?_, by simpa [Value.ownBlock] using h2⟩
  unfold SortedN
  rw [List.pairwise_iff_getElem]
  intro i j hi hj hij
  have := hsrt i j (Nat.zero_le _) hij (by rw [← hl]; exact hj)
  rw [ltN, decide_eq_false_iff_not] at this
  have hi' : i < d'.size := by simpa using hi
  have hj' : j < d'.size := by simpa using hj
  rw [getElem!_pos d' i hi', getElem!_pos d' j hj'] at this
  simpa using this
set_option maxHeartbeats 1000000 in
theorem Sort_none (w : World) (B c : Nat) :
    Calls Tryz.prog 105 #[.slice none 0 c, .func (.func 106) #[] #[]] w fun e w' => e = .returned (.tuple #[]) ∧ Below w.heap.size w w' := by
  have HI : Hid (∀ W : World, Below w.heap.size w W → Calls Tryz.prog 124 #[.slice none 0 c, .int .i64 0, .int .i64 0, .func (.func 106) #[] #[]] W fun e w' => e = .returned (.tuple #[]) ∧ Below w.heap.size w w') := Lib.hid (fun W hW => by
    have HW := Lib.hid hW
    clear hW
    go_enter Tryz.func124, Tryz.ntmps124
    go_wp2_with fail
    refine wp_loop_rounds 1 ?_
    rw [rounds_succ]
    go_wp2
    go_end0
    exact ⟨rfl, HW.out⟩)
  have HS : Hid (∀ W : World, Below w.heap.size w W → Calls Tryz.prog 120 #[.slice none 0 c, .int .i64 0, .func (.func 106) #[] #[]] W fun e w' => e = .returned (.tuple #[]) ∧ Below w.heap.size w w') := Lib.hid (fun W hW => by
    have HW := Lib.hid hW
    clear hW
    go_enter Tryz.func120, Tryz.ntmps120
    go_wp2_with fail
    refine wp_loop_rounds 1 ?_
    rw [rounds_succ]
    go_wp2_with (go_at_call 124; (with_reducible refine Calls.mono (HI.out _ HW.out) ?_); rintro e w1 ⟨rfl, hb1⟩; have HB1 := Lib.hid hb1; clear hb1)
    refine wp_loop_rounds 1 ?_
    rw [rounds_succ]
    go_wp2
    go_end0
    exact ⟨rfl, HB1.out⟩)
  have HB0 := Lib.hid (Below.refl w.heap.size w)
  go_enter Tryz.func105, Tryz.ntmps105
  go_wp2_with (go_at_call 120; (with_reducible refine Calls.mono (HS.out _ HB0.out) ?_); rintro e w1 ⟨rfl, hb1⟩; have HB1 := Lib.hid hb1; clear hb1)
  go_end0
  exact ⟨rfl, HB1.out⟩
/-- slices.SortStableFunc, as told calls it, over a row of fields of one's own. -/
theorem Sort_calls {w : World} {B n c : Nat} {A : Option Addr} {fs : List Cl.Fd} (h : FO w B (.slice A n c) fs) (hN : fs.length ≤ 100000) :
    Calls Tryz.prog 105 #[.slice A n c, .func (.func 106) #[] #[]] w (SrtP w B A n c fs) := by
  cases A with
  | some ad => exact Sort_some h hN
  | none =>
    have h0 : n = 0 ∧ fs = [] := by
      rcases h.1.2 with ⟨e, hl⟩ | ⟨g, cap, cur, e, _⟩
      · injection e with _ e2 _
        exact ⟨e2, List.eq_nil_of_length_eq_zero hl⟩
      · cases e
    obtain ⟨rfl, rfl⟩ := h0
    refine (Sort_none w B c).mono ?_
    rintro e w' ⟨rfl, hb⟩
    exact ⟨rfl, [], h.below hb, List.Perm.refl _, List.Pairwise.nil, grown_of_below hb (Nat.le_refl _) _⟩
end Go.Proofs.YtapjbdigpleekaaGreat.Mp

/- impl.told: the fields by their names; the conditions are on what lies in memory. -/
set_option linter.unusedVariables false
set_option linter.unusedSimpArgs false
namespace Go.Proofs.YtapjbdigpleekaaGreat.Mp
open Go.RowKit Go.Proofs.YtapjbdigpleekaaGreat.K Go.Proofs.YtapjbdigpleekaaGreat.Cl
/-- The fields come back, by their names. -/
def ToldP (S : List (ByteArray × PV)) (w : World) (e : Ending) (w' : World) : Prop := ∃ A n c fs, e = .returned (.slice A n c) ∧ n = fs.length ∧ FO w' w.heap.size (.slice A n c) fs ∧ (fs.map fld).Perm S ∧ SortedN fs ∧ Below w.heap.size w w'
theorem pick_self {S : List (ByteArray × PV)} (hn : (S.map (·.1)).Nodup) : pick S (S.map (·.1)) = S := by
  have h : ∀ T : List (ByteArray × PV), (∀ p ∈ T, p ∈ S) → pick S (T.map (·.1)) = T := by
    intro T
    induction T with
    | nil => intro _; rfl
    | cons p T ih =>
      intro hT
      have e : lookG S p.1 = some p.2 := lookG_of_mem hn (hT p List.mem_cons_self)
      have ih' := ih (fun q hq => hT q (List.mem_cons_of_mem _ hq))
      unfold pick at ih' ⊢
      rw [List.map_cons, List.flatMap_cons, ih', e]
      rfl
  exact h S (fun _ h => h)
theorem pick_perm {S : List (ByteArray × PV)} {L : List ByteArray} (hn : (S.map (·.1)).Nodup) (h : L.Perm (S.map (·.1))) : (pick S L).Perm S := by
  have := List.Perm.flatMap_right (fun n => optL n (lookG S n)) h
  have e := pick_self hn
  unfold pick at e ⊢
  rw [e] at this
  exact this
theorem known_ix {S : List (ByteArray × PV)} {M : List ByteArray} {fs : List Cl.Fd} {nm : ByteArray} {pv : PV} (h : fs.map fld = pick S M) (hm : nm ∈ M) (hl : lookG S nm = some pv) :
    ∃ (idx : Nat) (f : Cl.Fd), ixL (fun f => decide (f.name = nm)) fs = (idx : Int) ∧ fs[idx]? = some f ∧ fld f = (nm, pv) := by
  have hin : (nm, pv) ∈ fs.map fld := by rw [h, mem_pick]; exact ⟨hm, hl⟩
  obtain ⟨f, hf, e⟩ := List.mem_map.1 hin
  have en : f.name = nm := congrArg Prod.fst e
  cases hfi : fs.findIdx? (fun f => decide (f.name = nm)) with
  | none =>
    have := List.findIdx?_eq_none_iff.1 hfi f hf
    simp [en] at this
  | some i =>
    obtain ⟨hi, hp, _⟩ := List.findIdx?_eq_some_iff_getElem.1 hfi
    refine ⟨i, _, by unfold ixL; rw [hfi], List.getElem?_eq_getElem hi, ?_⟩
    have e1 : fs[i].name = nm := of_decide_eq_true hp
    have hin2 : fld fs[i] ∈ pick S M := by rw [← h]; exact List.mem_map_of_mem (List.getElem_mem hi)
    rw [mem_pick] at hin2
    have e2 : (fld fs[i]).1 = nm := e1
    rw [e2, hl] at hin2
    have e3 := hin2.2
    injection e3 with e3
    exact Prod.ext e2 e3.symm
theorem priv_ix {S : List (ByteArray × PV)} {M : List ByteArray} {fs : List Cl.Fd} {nm : ByteArray} (h : fs.map fld = pick S M) (hm : nm ∉ M) : ixL (fun f => decide (f.name = nm)) fs = -1 := by
  refine ixL_no fun f hf => decide_eq_false fun e => hm ?_
  have hin : fld f ∈ pick S M := by rw [← h]; exact List.mem_map_of_mem hf
  rw [mem_pick] at hin
  have e2 : (fld f).1 = nm := e
  rw [e2] at hin
  exact hin.1
theorem ord_len (k : Nat) : (ordK k).length ≤ 100 := by
  unfold ordK
  split <;> decide
theorem FO.turn {w w' : World} {B g t : Nat} {u : Value} {fs : List Cl.Fd} {cs : Array Value} (h : FO w B u fs) (hg : w.grownBy w' (some g)) (hb : Blk w g t cs) (ht : (45 : Nat) ≠ t) (ht2 : t ≠ 9 ∧ t ≠ 4) : FO w' B u fs :=
  ⟨h.1.kept hg (.inr (own_blk_ne h.1 hb ht).symm), fun f hf => (h.2 f hf).grown hg (safe_blk hb ht2)⟩
theorem FO.base {w : World} {B B' : Nat} {u : Value} {fs : List Cl.Fd} (h : FO w B u fs) (hb : B' ≤ B) : FO w B' u fs := ⟨own_base h.1 hb, h.2⟩
/-- What lies there in a round. -/
structure TR (S : List (ByteArray × PV)) (L : List ByteArray) (w2 wr : World) (j : Nat) (A : Option Addr) (n c : Nat) (fs : List Cl.Fd) : Prop where
  len : n = fs.length
  fo : FO wr w2.heap.size (.slice A n c) fs
  eq_ : fs.map fld = pick S (L.take j)
  below : Below w2.heap.size w2 wr
theorem TR.step {S : List (ByteArray × PV)} {L : List ByteArray} {w2 wr w8 : World} {j n n8 c8 : Nat} {A A8 : Option Addr} {c : Nat} {fs : List Cl.Fd} {f : Cl.Fd} (h : TR S L w2 wr j A n c fs) (hj : j < L.length) {pv : PV} (hl : lookG S L[j] = some pv) (hf : fld f = (L[j], pv))
    (hn : n8 = n + 1) (hfo : FO w8 w2.heap.size (.slice A8 n8 c8) (fs ++ [f])) (hb : Below w2.heap.size w2 w8) : TR S L w2 w8 (j + 1) A8 n8 c8 (fs ++ [f]) where
  len := by rw [List.length_append, List.length_singleton, ← h.len, hn]
  fo := hfo
  eq_ := by
    rw [List.take_succ_eq_append_getElem hj, pick_snoc, List.map_append, List.map_singleton, h.eq_, hl, hf]
    rfl
  below := hb
theorem TR.flen {S : List (ByteArray × PV)} {L : List ByteArray} {w2 wr : World} {j n c : Nat} {A : Option Addr} {fs : List Cl.Fd} (h : TR S L w2 wr j A n c fs) : n ≤ L.length := by
  have h1 := pick_len S (L.take j)
  rw [← h.eq_, List.length_map] at h1
  have h2 := List.length_take_le' j L
  have := h.len
  omega
set_option maxRecDepth 100000 in
set_option maxHeartbeats 8000000 in
theorem told_calls {k : Nat} {w : World} {B g : Nat} {S : List (ByteArray × PV)} (hk : k < 4) (h : Hd k w B g S) (hS : S.length ≤ 100000) (hO : ∀ p ∈ S, p.1 ∉ othL k) :
    Calls Tryz.prog 71 #[.iface (ptK k) (.pointer (some ⟨g, 0, none⟩))] w (ToldP S w) := by
  have HKN := Lib.hid (known_calls hk h)
  have HKE := Lib.hid (fun W (hW : Below w.heap.size w W) => Keys_calls hk (h.below hW) hS)
  have HGE := Lib.hid (fun W (hW : Below w.heap.size w W) n x (hn : n ∉ othL k) (hx : lookG S n = some x) d u hd => Get_calls (w := W) hk (h.below hW) hn hx (d := d) (u := u) hd)
  have a1 := fun W => (mKeys (g := g) hk W).1
  have a2 := fun W => (mKeys (g := g) hk W).2.1
  have a3 := fun W => (mKeys (g := g) hk W).2.2
  have b1 := fun W => (mGet (g := g) hk W).1
  have b2 := fun W => (mGet (g := g) hk W).2.1
  have b3 := fun W => (mGet (g := g) hk W).2.2
  have HX := Lib.hid (And.intro (And.intro h.nd hO) (And.intro hS (ord_iff hk)))
  have HOR : Hid (∀ n, n ∈ ordK k ↔ isK k n = true) := Lib.hid (ord_iff hk)
  generalize ptK k = PT at HKN a1 a2 a3 b1 b2 b3 ⊢
  generalize fKeys k = FK at HKE a1 a2 a3
  generalize fGet k = FG at HGE b1 b2 b3
  have HC := Lib.hid h.ok
  obtain ⟨i0, hi4⟩ := info_fld4
  have HI := Lib.hid hi4
  clear h hO hS hi4
  go_enter Tryz.func71, Tryz.ntmps71
  go_wp2_with fail
  refine HKN.out.mono ?_
  rintro e w1 ⟨A0, n0, c0, fs0, rfl, hn0, hfo0, hpk, hB1⟩
  have HKY := Lib.hid (HKE.out w1 hB1)
  have HF0 := Lib.hid (And.intro hn0 (And.intro hfo0 (And.intro hpk hB1)))
  have HN0 : Hid (n0 ≤ 100000) := Lib.hid (by have h1 := pick_len S (ordK k); rw [← hpk, List.length_map] at h1; have h3 := ord_len k; omega)
  clear hn0 hfo0 hpk hB1 HKN
  go_wp2_with fail
  refine HKY.out.mono ?_
  rintro e w2 ⟨A1, n1, c1, L, rfl, hown, hperm, hB2⟩
  have HSL := Lib.hid (show SL w2 A1 n1 L from Reads.of_own hown)
  have HL1 := Lib.hid HSL.out.len
  have HPM := Lib.hid hperm
  have HB2 := Lib.hid (HF0.out.2.2.2.trans (hB2.mono HF0.out.2.2.2.size))
  have HF2 := Lib.hid (HF0.out.2.1.below hB2)
  have HNB : Hid (n1 ≤ 100000) := Lib.hid (by have := HX.out.2.1; have e := hperm.length_eq; rw [List.length_map] at e; have := HL1.out; omega)
  clear hown hperm hB2 HKY HKE
  go_wp2_with fail
  go_loopg [4, 7, 14] n1 (fun q v4 v7 v14 wr => ∃ j A n c fs, q + j = n1 ∧ v14 = .int .i64 (j : Nat) ∧ v4 = .slice A n c ∧ Hid (TR S L w2 wr j A n c fs))
  case atStart => exact ⟨0, none, 0, 0, [], rfl, rfl, rfl, Lib.hid ⟨rfl, ⟨World.ownsRow_nil _ _ _ _, fun f hf => by cases hf⟩, rfl, Below.refl _ _⟩⟩
  case round =>
    obtain ⟨j, A, n, c, fs, hqj, rfl, rfl, HT⟩ := hrel
    have hnb := HNB.out
    by_cases hj : j < n1
    · have hjl : j < L.length := by have := HL1.out; omega
      have hji : (j : Int) < (n1 : Int) := by omega
      obtain ⟨ad, rfl, hcn⟩ := (HSL.out.below HT.out.below (Nat.le_refl _)).at_ hjl
      have hin : L[j] ∈ S.map (·.1) := HPM.out.mem_iff.1 (List.getElem_mem hjl)
      obtain ⟨pv, hpv⟩ : ∃ pv, lookG S L[j] = some pv := by
        cases hl : lookG S L[j] with
        | none => exact absurd hin (lookG_none.1 hl)
        | some pv => exact ⟨pv, rfl⟩
      have hno : L[j] ∉ othL k := by
        obtain ⟨p, hp, e⟩ := List.mem_map.1 hin
        rw [← e]; exact HX.out.1.2 p hp
      have HST : Hid (∀ {w8 : World} {n8 c8 : Nat} {A8 : Option Addr} {f : Cl.Fd}, fld f = (L[j], pv) → n8 = n + 1 → FO w8 w2.heap.size (.slice A8 n8 c8) (fs ++ [f]) → Below w2.heap.size w2 w8 → TR S L w2 w8 (j + 1) A8 n8 c8 (fs ++ [f])) :=
        Lib.hid (fun h1 h2 h3 h4 => HT.out.step hjl hpv h1 h2 h3 h4)
      obtain ⟨nm, hnm⟩ : ∃ nm, nm = L[j] := ⟨_, rfl⟩
      rw [← hnm] at hcn hpv hno HST
      have HPV := Lib.hid (And.intro hpv hno)
      clear hin hpv hno hnm
      have hBa := below_alloc' (Below.refl wr.heap.size wr) (.cells #[.string nm] 9)
      have HBA := Lib.hid (And.intro hBa (Blk.new wr 9 #[.string nm]))
      have hfa := (HF2.out.below (HT.out.below)).below hBa
      have HFA := Lib.hid hfa
      have HIX := Lib.hid (IndexF_told (w := wr.alloc (.cells #[.string nm] 9)) (cap := #[.pointer (some ⟨wr.heap.size, 0, none⟩)]) (c := c0) (hfa.fl HF0.out.1) HN0.out (fun f => decide (f.name = nm)) (fun W hW f hf => told1_calls W f wr.heap.size nm ((Blk.new wr _ _).below hW (by simp))))
      clear hBa hfa
      cases hkn : isK k nm with
      | true =>
        obtain ⟨idx, f, hix, hgf, hff⟩ := known_ix HF0.out.2.2.1 ((HOR.out nm).2 hkn) HPV.out.1
        rw [hix] at HIX
        have hi : idx < fs0.length := (List.getElem?_eq_some_iff.1 hgf).1
        have HXI := Lib.hid hi
        have hge : (0 : Int) ≤ (idx : Int) := by omega
        have hid : (idx : Int) < (n0 : Int) := by have := HF0.out.1; omega
        have hfm : f ∈ fs0 := List.mem_of_getElem? hgf
        have HFE := Lib.hid (List.getElem?_eq_some_iff.1 hgf)
        have HFF := Lib.hid (And.intro hff hfm)
        clear hix hff hkn hfm hgf hi
        go_wp2_with (first
          | (go_at_call 102; ((with_reducible refine Calls.mono HIX.out ?_); rintro e w3 ⟨rfl, hb3⟩; have HF3 := Lib.hid (HFA.out.below hb3); obtain ⟨ad3, hA3, y0, y1, y2, y3, y4, y5, _⟩ := (HF3.out.fl HF0.out.1).at_ HXI.out; obtain ⟨_, hfe⟩ := HFE.out; rw [hfe] at y0 y1 y2 y3 y4 y5; clear hfe; subst hA3; have HB3 := Lib.hid (K.below_then HBA.out.1 hb3); have HT3 := Lib.hid (HT.out.fo.below HB3.out); clear hb3))
          | (at_builtin; (refine own_appF HT3.out (HF3.out.2 f HFF.out.2) (Nat.le_trans HT.out.below.size HB3.out.size) HI.out HT.out.len (by have := HT.out.flen; have := HL1.out; omega) rfl _ _ rfl rfl rfl ?_; intro A8 c8 w8 hfo8 hg8; have H8 := Lib.hid (And.intro hfo8 hg8); clear hfo8 hg8)))
        go_roundg (n1 - (j + 1))
        case measure => omega
        case rel =>
          exact ⟨j + 1, A8, n + 1, c8, fs ++ [f], by omega, by go_num, rfl, HST.out HFF.out.1 rfl H8.out.1 ((HT.out.below.trans (HB3.out.mono HT.out.below.size)).grown H8.out.2 (Nat.le_trans HT.out.below.size HB3.out.size) (own_block_ge HT3.out.1))⟩
      | false =>
        have hix := priv_ix HF0.out.2.2.1 (fun hm => by have := (HOR.out nm).1 hm; rw [hkn] at this; cases this)
        rw [hix] at HIX
        have HGG := Lib.hid (fun w4 (hW : Below w.heap.size w w4) d hd => HGE.out w4 hW nm pv HPV.out.2 HPV.out.1 d .nilIface hd)
        have HOK := Lib.hid (HC.out _ (lookG_mem HPV.out.1))
        clear hix hkn
        go_upto_region 11 with (first
          | (go_at_call 102; ((with_reducible refine Calls.mono HIX.out ?_); rintro e w3 ⟨rfl, hb3⟩; have HB3 := Lib.hid (K.below_then HBA.out.1 hb3); have HN3 := Lib.hid (HBA.out.2.below hb3 (by simp)); have HT3 := Lib.hid (HT.out.fo.below HB3.out); have k6 : (w3.alloc (.cells #[.nilIface] 20)).cell? ⟨wr.heap.size, 0, none⟩ = some (.string nm) := ((HN3.out.alloc _).cell 0).trans rfl; have HG4 := Lib.hid (HGG.out (w3.alloc (.cells #[.nilIface] 20)) (below_alloc' (HB2.out.trans (((HT.out.below.trans (HB3.out.mono HT.out.below.size))).mono HB2.out.size)) _) w3.heap.size (Blk.new w3 _ _)); clear hb3))
          | (((with_reducible refine Calls.mono HG4.out ?_); rintro e w5 ⟨rfl, v, hbv, hpv5, hg5⟩; have H5 := Lib.hid (And.intro hbv (And.intro hpv5 hg5)); clear hbv hpv5 hg5)))
        have hlt3 : wr.heap.size < w3.heap.size := HN3.out.lt
        have hb4 := Blk.new w3 20 #[.nilIface]
        have HN5 := Lib.hid ((HN3.out.alloc (.cells #[.nilIface] 20)).grown H5.out.2.2 (fun e => by injection e with e; omega))
        have HT5 := Lib.hid ((HT3.out.below (below_alloc' (Below.refl _ _) (.cells #[.nilIface] 20))).turn H5.out.2.2 hb4 (by decide) any_ne)
        have HB5 := Lib.hid ((below_alloc' HB3.out (.cells #[.nilIface] 20)).grown H5.out.2.2 (by have := HB3.out.size; simp only [World.size_alloc]; omega) (by intro i hi; cases hi; exact HB3.out.size))
        have HP := Lib.hid (plain_calls w5.drew 0 v pv (H5.out.2.1.grown (grown_of_below (show Below w5.heap.size w5 w5.drew from ⟨rfl, rfl, rfl, Nat.le_refl _, fun _ _ => rfl⟩) (Nat.le_refl _) none) (safe_none _)) HOK.out)
        have HD : Hid (Blk w5.drew wr.heap.size 9 #[.string nm] ∧ FO w5.drew w2.heap.size (.slice A n c) fs) := Lib.hid ⟨HN5.out, HT5.out⟩
        have HSZ := Lib.hid (show w2.heap.size ≤ w5.drew.heap.size from Nat.le_trans HT.out.below.size HB5.out.size)
        have k6d : w5.drew.cell? ⟨wr.heap.size, 0, none⟩ = some (.string nm) := (HD.out.1.cell 0).trans rfl
        have k8d : w5.drew.cell? ⟨w3.heap.size, 0, none⟩ = some v := (show Blk w5.drew w3.heap.size 20 #[v] from H5.out.1).cell 0
        clear hlt3 hb4
        go_region_law (first
          | (rw [if_pos (by rfl)]; go_simp; go_at_call 104; (with_reducible refine Calls.mono HP.out ?_); rintro e w6 ⟨v6, rfl, hpl, hB6⟩; obtain ⟨f, hff, rfl, hfd, hfn⟩ := hpl.fd HOK.out nm; have H6 := Lib.hid (And.intro hB6 (And.intro hff hfd)); have HF6 := Lib.hid (HD.out.2.below hB6); have k6e : w6.cell? ⟨wr.heap.size, 0, none⟩ = some (.string nm) := ((HD.out.1.below hB6 HD.out.1.lt).cell 0).trans rfl; subst hfn; clear hpl hB6 hff hfd HP)
          | (refine step_appF HF6.out H6.out.2.2 (Nat.le_trans HSZ.out H6.out.1.size) HI.out HT.out.len (by have := HT.out.flen; have := HL1.out; omega) rfl _ _ rfl (by simp [Act.eval, Act.put]) (by simp [Act.eval, Act.put]) ?_; intro A8 c8 w8 hfo8 hg8; have H8 := Lib.hid (And.intro hfo8 hg8); clear hfo8 hg8))
        all_goals
          go_wp2_with fail
          go_roundg (n1 - (j + 1))
          case measure => omega
          case rel =>
            exact ⟨j + 1, A8, n + 1, c8, fs ++ [f], by omega, by go_num, rfl, HST.out H6.out.2.1 rfl H8.out.1 ((HT.out.below.trans ((HB5.out.trans ((show Below wr.heap.size w5 w5.drew from ⟨rfl, rfl, rfl, Nat.le_refl _, fun _ _ => rfl⟩).trans (H6.out.1.mono HB5.out.size))).mono HT.out.below.size)).grown H8.out.2 (Nat.le_trans HSZ.out H6.out.1.size) (own_block_ge HF6.out.1))⟩
    · have hji : ¬ (j : Int) < (n1 : Int) := by omega
      obtain rfl : j = n1 := by omega
      have HTT : Hid (fs.map fld = pick S L) := Lib.hid (by rw [HT.out.eq_, List.take_of_length_le (by have := HL1.out; omega)])
      have HSO := Lib.hid (Sort_calls HT.out.fo (by have := HT.out.flen; have := HT.out.len; have := HL1.out; omega))
      go_wp2_with (go_at_call 105; (with_reducible refine Calls.mono HSO.out ?_); rintro e w5 ⟨rfl, fs', hfo, hpm, hsrt, hg⟩; have H5 := Lib.hid (And.intro hfo (And.intro hpm (And.intro hsrt hg))); clear hfo hpm hsrt hg)
      go_ret
      have hlen := H5.out.2.1.length_eq
      exact ⟨A, n, c, fs', rfl, by rw [HT.out.len, hlen], H5.out.1.base HB2.out.size, (H5.out.2.1.map fld).trans (by rw [HTT.out]; exact pick_perm HX.out.1.1 HPM.out), H5.out.2.2.1, (HB2.out.trans (HT.out.below.mono HB2.out.size)).grown H5.out.2.2.2 (Nat.le_trans HB2.out.size HT.out.below.size) (fun i hi => Nat.le_trans HB2.out.size (own_block_ge HT.out.fo.1 i hi))⟩
end Go.Proofs.YtapjbdigpleekaaGreat.Mp

/- New maps of the four kinds; impl.fresh. No condition but the four kinds. Printed by gen_mpnew.py. -/
set_option linter.unusedVariables false
set_option linter.unusedSimpArgs false
namespace Go.Proofs.YtapjbdigpleekaaGreat.Mp
open Go.RowKit Go.Proofs.YtapjbdigpleekaaGreat.K Go.Proofs.YtapjbdigpleekaaGreat.Cl
def NewK (k : Nat) (w : World) (e : Ending) (w' : World) : Prop := ∃ g, e = .returned (.iface (ptK k) (.pointer (some ⟨g, 0, none⟩))) ∧ Hd k w' w.heap.size g [] ∧ Below w.heap.size w w'
theorem hd_fresh {k : Nat} {w : World} {B g : Nat} {cs : Array Value} {m : Option Nat} (hb : Blk w g (tyK k) cs) (hm : cs[mcK k]? = some (.map m)) (hr : ∀ q ∈ restK k, cs[q.1]? = some q.2)
    (hf : ∀ f ∈ fldK k, cs[f.2.1]? = some (if f.2.2 < 2 then .pointer none else .slice none 0 0)) (hp : Prv w B m []) (hB : B ≤ g) : Hd k w B g [] := by
  refine ⟨cs, m, hb, hm, hr, fun f h => ⟨_, hf f h, ?_⟩, hp, hB, List.nodup_nil, fun p hp => by cases hp⟩
  unfold FC
  split
  · rename_i e
    exact .inl ⟨rfl, by rw [if_pos (by omega)]⟩
  · rename_i e
    exact .inl ⟨rfl, by rw [if_pos (by omega)]⟩
  · rename_i e0 e1
    exact .inl ⟨rfl, by rw [if_neg (fun h => (by omega : f.2.2 = 0 ∨ f.2.2 = 1).elim e0 e1)]⟩
theorem optSet_calls (w : World) : Calls Tryz.prog 116 #[] w fun e w' => e = .returned (.int .u64 0) ∧ w' = w := by
  go_enter Tryz.func116, Tryz.ntmps116
  go_wp2
  go_ret
  exact ⟨rfl, rfl⟩
theorem mk_map (W : World) : Sem.run Tryz.prog (Instr.makeMap 169 none) W = .ok (.map (some W.heap.size)) (W.alloc (.map #[] 0)) := by kernel_rfl
set_option maxRecDepth 100000 in
set_option maxHeartbeats 1000000 in
theorem jws_new (w : World) : Calls Tryz.prog 97 #[] w (NewK 0 w) := by
  go_enter Tryz.func97, Tryz.ntmps97
  go_wp2
  go_ret
  exact ⟨w.heap.size, rfl, hd_fresh (cs := #[.pointer none, .pointer none, .pointer none, .slice none 0 0, .pointer none, .pointer none, .pointer none, .pointer none, .pointer none, .pointer none, .map none]) (m := none) (Blk.new w _ _) rfl (by simp [restK]) (by simp [fldK]) (.inl ⟨rfl, rfl⟩) (Nat.le_refl _), below_alloc' (Below.refl _ _) _⟩
set_option maxRecDepth 100000 in
set_option maxHeartbeats 1000000 in
theorem jwe_new (w : World) : Calls Tryz.prog 98 #[] w (NewK 1 w) := by
  have hmk := mk_map
  go_enter Tryz.func98, Tryz.ntmps98
  go_wp2
  go_ret
  have hb := Blk.new (w.alloc (.map #[] 0)) (tyK 1) #[.slice none 0 0, .slice none 0 0, .pointer none, .pointer none, .pointer none, .pointer none, .slice none 0 0, .pointer none, .pointer none, .pointer none, .pointer none, .pointer none, .pointer none, .map (some w.heap.size)]
  rw [show (w.alloc (.map #[] 0)).heap.size = w.heap.size + 1 from by simp] at hb
  exact ⟨w.heap.size + 1, rfl, hd_fresh hb rfl (by simp [restK]) (by simp [fldK]) (.inr ⟨w.heap.size, [], rfl, Nat.le_refl _, (MapL.new w).below (below_alloc' (Below.refl _ _) _) (by simp), rfl, fun t ht => by cases ht⟩) (by omega), below_alloc' (below_alloc' (Below.refl _ _) _) _⟩
set_option maxRecDepth 100000 in
set_option maxHeartbeats 1000000 in
theorem jwt_new (w : World) : Calls Tryz.prog 100 #[] w (NewK 2 w) := by
  have hmk := mk_map
  have HO := Lib.hid optSet_calls
  go_enter Tryz.func100, Tryz.ntmps100
  go_wp2_with fail
  refine (HO.out _).mono ?_
  rintro e w1 ⟨rfl, rfl⟩
  go_wp2
  go_ret
  have hb := Blk.new (w.alloc (.map #[] 0)) (tyK 2) #[.int .u64 0, .slice none 0 0, .pointer none, .pointer none, .pointer none, .map (some w.heap.size)]
  rw [show (w.alloc (.map #[] 0)).heap.size = w.heap.size + 1 from by simp] at hb
  exact ⟨w.heap.size + 1, rfl, hd_fresh hb rfl (by simp [restK]) (by simp [fldK]) (.inr ⟨w.heap.size, [], rfl, Nat.le_refl _, (MapL.new w).below (below_alloc' (Below.refl _ _) _) (by simp), rfl, fun t ht => by cases ht⟩) (by omega), below_alloc' (below_alloc' (Below.refl _ _) _) _⟩
set_option maxRecDepth 100000 in
set_option maxHeartbeats 1000000 in
theorem oid_new (w : World) : Calls Tryz.prog 99 #[] w (NewK 3 w) := by
  have hmk := mk_map
  have HO := Lib.hid optSet_calls
  go_enter Tryz.func99, Tryz.ntmps99
  go_wp2_with fail
  refine (HO.out _).mono ?_
  rintro e w1 ⟨rfl, rfl⟩
  go_wp2
  go_ret
  have hb := Blk.new (w.alloc (.map #[] 0)) (tyK 3) #[.int .u64 0, .slice none 0 0, .pointer none, .pointer none, .pointer none, .pointer none, .pointer none, .pointer none, .pointer none, .pointer none, .pointer none, .pointer none, .pointer none, .pointer none, .pointer none, .pointer none, .pointer none, .pointer none, .pointer none, .pointer none, .pointer none, .map (some w.heap.size)]
  rw [show (w.alloc (.map #[] 0)).heap.size = w.heap.size + 1 from by simp] at hb
  exact ⟨w.heap.size + 1, rfl, hd_fresh hb rfl (by simp [restK]) (by simp [fldK]) (.inr ⟨w.heap.size, [], rfl, Nat.le_refl _, (MapL.new w).below (below_alloc' (Below.refl _ _) _) (by simp), rfl, fun t ht => by cases ht⟩) (by omega), below_alloc' (below_alloc' (Below.refl _ _) _) _⟩
set_option maxHeartbeats 1000000 in
theorem fresh_k (w : World) (k : Nat) (hk : k < 4) : Calls Tryz.prog 70 #[.int .i64 (k : Int)] w (NewK k w) := by
  rcases (by omega : k = 0 ∨ k = 1 ∨ k = 2 ∨ k = 3) with rfl | rfl | rfl | rfl
  · have HN := Lib.hid (jws_new w)
    go_enter Tryz.func70, Tryz.ntmps70
    go_wp2_with fail
    refine HN.out.mono ?_
    rintro e w1 ⟨g, rfl, hh, hb⟩
    have HH := Lib.hid (And.intro hh hb)
    clear hh hb
    go_wp2
    go_ret
    exact ⟨g, rfl, HH.out.1, HH.out.2⟩
  · have HN := Lib.hid (jwe_new w)
    go_enter Tryz.func70, Tryz.ntmps70
    go_wp2_with fail
    refine HN.out.mono ?_
    rintro e w1 ⟨g, rfl, hh, hb⟩
    have HH := Lib.hid (And.intro hh hb)
    clear hh hb
    go_wp2
    go_ret
    exact ⟨g, rfl, HH.out.1, HH.out.2⟩
  · have HN := Lib.hid (jwt_new w)
    go_enter Tryz.func70, Tryz.ntmps70
    go_wp2_with fail
    refine HN.out.mono ?_
    rintro e w1 ⟨g, rfl, hh, hb⟩
    have HH := Lib.hid (And.intro hh hb)
    clear hh hb
    go_wp2
    go_ret
    exact ⟨g, rfl, HH.out.1, HH.out.2⟩
  · have HN := Lib.hid (oid_new w)
    go_enter Tryz.func70, Tryz.ntmps70
    go_wp2_with fail
    refine HN.out.mono ?_
    rintro e w1 ⟨g, rfl, hh, hb⟩
    have HH := Lib.hid (And.intro hh hb)
    clear hh hb
    go_wp2
    go_ret
    exact ⟨g, rfl, HH.out.1, HH.out.2⟩
end Go.Proofs.YtapjbdigpleekaaGreat.Mp
