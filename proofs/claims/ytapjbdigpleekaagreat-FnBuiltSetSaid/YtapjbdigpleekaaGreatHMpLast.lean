import Derived.Test.YtapjbdigpleekaaGreatGP
import Derived.Test.YtapjbdigpleekaaGreatGB
/- laws.claimLast: the last field of each name; the conditions are on what lies in memory. -/
set_option linter.unusedVariables false
set_option linter.unusedSimpArgs false
namespace Go.Proofs.YtapjbdigpleekaaGreat.Mp
open Go.RowKit Go.Proofs.YtapjbdigpleekaaGreat.K Go.Proofs.YtapjbdigpleekaaGreat.Cl
/-- The last field of each name. -/
def lastF : List Cl.Fd → List Cl.Fd
  | [] => []
  | f :: r => if r.any (fun g => decide (g.name = f.name)) then lastF r else f :: lastF r
theorem lastF_drop {fs : List Cl.Fd} {j : Nat} (hj : j < fs.length) : lastF (fs.drop j) = if (fs.drop (j + 1)).any (fun g => decide (g.name = fs[j].name)) then lastF (fs.drop (j + 1)) else fs[j] :: lastF (fs.drop (j + 1)) := by
  rw [List.drop_eq_getElem_cons hj, lastF]
theorem lastF_mem {f : Cl.Fd} : ∀ {fs : List Cl.Fd}, f ∈ lastF fs → f ∈ fs
  | [], h => h
  | g :: r, h => by
    rw [lastF] at h
    split at h
    · exact List.mem_cons_of_mem _ (lastF_mem h)
    · rcases List.mem_cons.1 h with rfl | h
      · exact List.mem_cons_self
      · exact List.mem_cons_of_mem _ (lastF_mem h)
theorem lastF_len : ∀ fs : List Cl.Fd, (lastF fs).length ≤ fs.length
  | [] => Nat.le_refl _
  | g :: r => by
    have := lastF_len r
    rw [lastF]
    split
    · simp only [List.length_cons]; omega
    · simp only [List.length_cons]; omega
theorem last1_calls (w : World) (f : Cl.Fd) (fb : Nat) (x0 : ByteArray) (x1 x2 x3 x4 x5 : Value) (hb : Blk w fb 45 #[.string x0, x1, x2, x3, x4, x5]) : Calls Tryz.prog 78 #[fdV f, .pointer (some ⟨fb, 0, none⟩)] w (BoolB w (decide (f.name = x0))) := by
  obtain ⟨nm1, k, t, b, z, A1, n1, c1, l1⟩ := f
  have hb1 := hb.alloc (.cells #[.string nm1, .int .i64 k, .string t, .bool b, .int .i32 z, .slice A1 n1 c1] 45)
  have hc : (w.alloc (.cells #[.string nm1, .int .i64 k, .string t, .bool b, .int .i32 z, .slice A1 n1 c1] 45)).cell? ⟨fb, 0, none⟩ = some (.string x0) := by rw [hb1.cell]; rfl
  have HB := Lib.hid (below_alloc' (Below.refl w.heap.size w) (.cells #[.string nm1, .int .i64 k, .string t, .bool b, .int .i32 z, .slice A1 n1 c1] 45))
  obtain ⟨r, hr⟩ : ∃ r, r = decide (nm1 = x0) := ⟨_, rfl⟩
  have hs := str_dec nm1 x0
  rw [← hr] at hs
  simp only
  rw [← hr]
  clear hr hb hb1
  go_enter Tryz.func78, Tryz.ntmps78
  go_wp2
  go_ret
  exact ⟨rfl, HB.out⟩
theorem ixL_ge (p : Cl.Fd → Bool) (l : List Cl.Fd) : decide (0 ≤ ixL p l) = l.any p := by
  unfold ixL
  cases h : l.findIdx? p with
  | none =>
    have := List.findIdx?_eq_none_iff.1 h
    rw [decide_eq_false (by show ¬ (0 : Int) ≤ -1; omega)]
    symm
    rw [List.any_eq_false]
    intro x hx
    simp [this x hx]
  | some i =>
    obtain ⟨hi, hp, _⟩ := List.findIdx?_eq_some_iff_getElem.1 h
    rw [decide_eq_true (by show (0 : Int) ≤ (i : Int); omega)]
    symm
    exact List.any_eq_true.2 ⟨_, List.getElem_mem hi, hp⟩
theorem ContainsF_calls {w : World} {cap : Array Value} {A : Option Addr} {n c : Nat} {l : List Cl.Fd} (h : FL w A n l) (hn : n ≤ 100000) (p : Cl.Fd → Bool)
    (hF : ∀ (W : World), Below w.heap.size w W → ∀ z ∈ l, Calls Tryz.prog 78 (#[fdV z] ++ cap) W (BoolB W (p z))) :
    Calls Tryz.prog 77 #[.slice A n c, .func (.func 78) #[] cap] w (BoolB w (l.any p)) := by
  have HI := Lib.hid (IndexF_last (c := c) h hn p hF)
  rw [← ixL_ge]
  obtain ⟨i, hi⟩ : ∃ i, i = ixL p l := ⟨_, rfl⟩
  rw [← hi] at HI ⊢
  clear h hF hi
  go_enter Tryz.func77, Tryz.ntmps77
  go_wp2_with fail
  refine HI.out.mono ?_
  rintro e w1 ⟨rfl, hb⟩
  have HB := Lib.hid hb
  clear hb
  go_wp2
  go_ret
  exact ⟨rfl, HB.out⟩
/-- One field more at the end of a row of one's own: of its list nothing is said. -/
theorem own_appR {ops : Array Oper} {rest : List Oper} {o : Oper} {a : Act} {Q : Exit → Act → World → Prop} {B : Nat} {w : World} {n c : Nat} {A : Option Addr} {fs : List Cl.Fd} {f : Cl.Fd}
    (h : w.ownsRow B 45 6 (.slice A n c) fs.length (fvs fs)) (hB : B ≤ w.heap.size) (hnl : n = fs.length) (hn : n < 1000000) (hgd : o.guard = none) (s1 s2 : Operand)
    (ho : o.op = .call { callee := .builtin .append, args := #[s1, s2], argTypes := #[22, 22] }) (hs : a.eval s1 = .slice A n c) (he : a.eval s2 = .slice (some ⟨w.heap.size, 0, none⟩) 1 1)
    (hq : ∀ A' c' w8, w8.ownsRow B 45 6 (.slice A' (n + 1) c') (fs ++ [f]).length (fvs (fs ++ [f])) → Below B w w8 → wpList Tryz.prog ops Q rest (a.put o.dst (.slice A' (n + 1) c')) w8) :
    wpList Tryz.prog ops Q (o :: rest) a (w.alloc (.cells #[.string f.name, .int .i64 f.k, .string f.t, .bool f.b, .int .i32 f.z, .slice f.A f.n f.c] 45)) := by
  obtain ⟨i0, HI⟩ := info_fld4
  subst hnl
  have hsz' : B ≤ (w.alloc (.cells #[.string f.name, .int .i64 f.k, .string f.t, .bool f.b, .int .i32 f.z, .slice f.A f.n f.c] 45)).heap.size := by simp only [World.size_alloc]; omega
  have h1' := World.ownsRow.alloc h (.cells #[.string f.name, .int .i64 f.k, .string f.t, .bool f.b, .int .i32 f.z, .slice f.A f.n f.c] 45)
  refine wpList_append_any _ hgd s1 s2 22 ho B 45 i0 zFd 6 72 Tryz.underlying22 HI.1 HI.2.1 HI.2.2.1 HI.2.2.2 rfl (by decide) _ fs.length (fvs fs) hs h1' (some ⟨w.heap.size, 0, none⟩) 1 1 (fc f) he (reads_lit w 6 1 (fc f) #[.string f.name, .int .i64 f.k, .string f.t, .bool f.b, .int .i32 f.z, .slice f.A f.n f.c] rfl rfl _) (fcs_one f) (by unfold maxLen; omega) (by omega) hsz' ?_
  intro v' w8 hown hg _
  obtain ⟨A', c', rfl, _, _⟩ := own_form hown
  refine hq A' c' w8 ?_ ((Below.refl B w).grown (grown_trans (World.grownBy_alloc w _ _) hg) hB (own_block_ge h))
  rw [fvs_app, List.length_append, List.length_singleton]
  simpa [fvs] using hown
def LastP (w : World) (fs : List Cl.Fd) (e : Ending) (w' : World) : Prop := ∃ A n c, e = .returned (.slice A n c) ∧ FL w' A n (lastF fs) ∧ Below w.heap.size w w'
set_option maxRecDepth 100000 in
set_option maxHeartbeats 4000000 in
theorem claimLast_calls (w : World) (A : Option Addr) (n c : Nat) (fs : List Cl.Fd) (h : FL w A n fs) (hn : n ≤ 100000) (hnc : n ≤ c) :
    Calls Tryz.prog 40 #[.slice A n c] w (LastP w fs) := by
  have HF := Lib.hid h
  have HLN := Lib.hid h.len
  obtain ⟨i0, hi0, hi1, hi2, hi3⟩ := info_parts info_fld
  have HI := Lib.hid (And.intro hi0 hi2)
  have HR0 : Hid (w.ownsRow w.heap.size 45 6 (.slice none 0 0) ([] : List Cl.Fd).length (fvs []) ∧ Below w.heap.size w w ∧ ([] : List Cl.Fd) ++ lastF (fs.drop 0) = lastF fs) := Lib.hid ⟨World.ownsRow_nil _ _ _ _, Below.refl _ _, rfl⟩
  clear h hi0 hi1 hi2 hi3
  go_enter Tryz.func40, Tryz.ntmps40
  go_wp2
  go_loopg [3, 4, 8] n (fun q v3 v4 v8 wr => ∃ (j : Nat) (A' : Option Addr) (n' c' : Nat) (out : List Cl.Fd), q + j = n ∧ v8 = .int .i64 (j : Nat) ∧ v3 = .slice A' n' c' ∧ Hid (wr.ownsRow w.heap.size 45 6 (.slice A' n' c') out.length (fvs out) ∧ Below w.heap.size w wr ∧ out ++ lastF (fs.drop j) = lastF fs) ∧ Hid (n' = out.length))
  case atStart => exact ⟨0, none, 0, 0, [], rfl, rfl, rfl, HR0, rfl⟩
  case round =>
    clear HR0
    obtain ⟨j, A', n', c', out, hqj, rfl, rfl, HR, HNL⟩ := hrel
    by_cases hj : j < n
    · have hjl : j < fs.length := by have := HLN.out; omega
      have hji : (j : Int) < (n : Int) := by omega
      have hflr := HF.out.below HR.out.2.1 (Nat.le_refl _)
      obtain ⟨ad, rfl, y0, y1, y2, y3, y4, y5, hsl⟩ := hflr.at_ hjl
      have HLD := Lib.hid (lastF_drop hjl)
      have hwj : IntKind.i64.wrap ((j : Int) + 1) = ((j + 1 : Nat) : Int) := by rw [wrap_small _ (by omega) (by omega)]; rfl
      have hwj2 : IntKind.i64.wrap ((j : Int) + 1) = (j : Int) + 1 := wrap_small _ (by omega) (by omega)
      obtain ⟨f, hf⟩ : ∃ f, f = fs[j] := ⟨_, rfl⟩
      rw [← hf] at y0 y1 y2 y3 y4 y5 HLD
      obtain ⟨wB, hwB⟩ : ∃ wB, wB = wr.alloc (.cells #[.string f.name, .int .i64 f.k, .string f.t, .bool f.b, .int .i32 f.z, .slice f.A f.n f.c] 45) := ⟨_, rfl⟩
      have HBF : Hid (Below wr.heap.size wr wB ∧ Blk wB wr.heap.size 45 #[.string f.name, .int .i64 f.k, .string f.t, .bool f.b, .int .i32 f.z, .slice f.A f.n f.c]) := Lib.hid (by rw [hwB]; exact ⟨below_alloc' (Below.refl wr.heap.size wr) _, Blk.new wr _ _⟩)
      have HOF := Lib.hid (own_below HR.out.1 HBF.out.1)
      have hflB := hflr.below HBF.out.1 (Nat.le_refl _)
      obtain ⟨A2, hcut, hrd⟩ := cut_l (P := Tryz.prog) Tryz.underlying22 HI.out.1 HI.out.2 .i64 hflB.1 hnc ((j : Int) + 1) (j + 1) (by omega) (by omega)
      have hfd : (fvs fs).drop ((j + 1) * 6) = fvs (fs.drop (j + 1)) := by
        conv => lhs; rw [← List.take_append_drop (j + 1) fs, fvs_app]
        rw [List.drop_append_of_le_length (by rw [fvs_len, List.length_take]; omega), List.drop_of_length_le (by rw [fvs_len, List.length_take]; omega), List.nil_append]
      rw [hfd] at hrd
      have HFD : Hid (FL wB A2 (n - (j + 1)) (fs.drop (j + 1))) := Lib.hid ⟨hrd, fun g hg => hflB.2 g (List.mem_of_mem_drop hg)⟩
      have HCF := Lib.hid (ContainsF_calls (c := c - (j + 1)) (cap := #[.pointer (some ⟨wr.heap.size, 0, none⟩)]) HFD.out (by omega) (fun g => decide (g.name = f.name)) (fun W hW g hg => last1_calls W g wr.heap.size f.name _ _ _ _ _ (HBF.out.2.below hW HBF.out.2.lt)))
      obtain ⟨r, hr⟩ : ∃ r, r = (fs.drop (j + 1)).any (fun g => decide (g.name = f.name)) := ⟨_, rfl⟩
      rw [← hr] at HCF HLD
      clear hf hsl hrd hfd hflr hflB hr
      go_upto_region 5 with (fail)
      rw [← hwB]
      clear hwB y0 y1 y2 y3 y4 y5
      go_wp2_with fail
      refine HCF.out.mono ?_
      rintro e w5 ⟨rfl, hb5⟩
      have HB5 := Lib.hid (HR.out.2.1.trans ((HBF.out.1.trans (hb5.mono HBF.out.1.size)).mono HR.out.2.1.size))
      have HO5 := Lib.hid (own_below HOF.out hb5)
      have HV5 := Lib.hid (HBF.out.2.below hb5 HBF.out.2.lt)
      clear hb5 HCF
      cases r with
      | true =>
        go_wp2_with fail
        go_roundg (n - (j + 1))
        case measure => omega
        case rel => exact ⟨j + 1, A', n', c', out, by omega, by go_num, rfl, ⟨HO5.out, HB5.out, by rw [← HR.out.2.2, HLD.out]; rfl⟩, HNL⟩
      | false =>
        obtain ⟨d0, d1, d2, d3, d4, d5⟩ := six_cells HV5.out
        have HNB : Hid (n' < 1000000) := Lib.hid (by
          have h1 := congrArg List.length HR.out.2.2
          have h2 := lastF_len fs
          rw [List.length_append] at h1
          have h3 := HNL.out
          have h4 := HLN.out
          omega)
        go_wp2_with (at_builtin; refine own_appR (f := f) HO5.out HB5.out.size HNL.out HNB.out rfl _ _ rfl rfl rfl ?_; intro A8 c8 w8 hown hb8; have H8 := Lib.hid (And.intro hown hb8); clear hown hb8)
        go_roundg (n - (j + 1))
        case measure => omega
        case rel => exact ⟨j + 1, A8, n' + 1, c8, out ++ [f], by omega, by go_num, rfl, ⟨H8.out.1, HB5.out.trans H8.out.2, by rw [← HR.out.2.2, HLD.out, List.append_assoc]; rfl⟩, by show n' + 1 = _; rw [List.length_append, HNL.out]; rfl⟩
    · have hji : ¬ (j : Int) < (n : Int) := by omega
      obtain rfl : j = n := by omega
      have HE : Hid (out = lastF fs) := Lib.hid (by have := HR.out.2.2; rwa [List.drop_of_length_le (by have := HLN.out; omega), lastF, List.append_nil] at this)
      go_wp2
      go_ret
      have ho := HR.out.1
      have hl := HNL.out
      subst hl
      rw [HE.out] at ho
      exact ⟨_, _, _, rfl, ⟨by rw [HE.out]; exact Reads.of_own ho, fun f hf => (HF.out.2 f (lastF_mem hf)).below HR.out.2.1 (Nat.le_refl _)⟩, HR.out.2.1⟩
end Go.Proofs.YtapjbdigpleekaaGreat.Mp
