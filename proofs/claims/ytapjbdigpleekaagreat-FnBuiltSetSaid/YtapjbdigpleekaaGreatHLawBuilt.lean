import Derived.Test.YtapjbdigpleekaaGreatHMpBuilt
import Derived.Test.YtapjbdigpleekaaGreatHMpLast
import Derived.Test.YtapjbdigpleekaaGreatHLawMpEmpty
/- The law FnBuiltSet: it returns true of every input; the conditions are on what lies in memory, and the range of numbers. -/
set_option linter.unusedVariables false
set_option linter.unusedSimpArgs false
namespace Go.Proofs.YtapjbdigpleekaaGreat.Mp
open Go.RowKit Go.Proofs.YtapjbdigpleekaaGreat.K Go.Proofs.YtapjbdigpleekaaGreat.Cl
theorem fld_names (fs : List Cl.Fd) : (fs.map fld).map (·.1) = fs.map (·.name) := by rw [List.map_map]; rfl
theorem last_names (a : ByteArray) : ∀ fs : List Cl.Fd, a ∈ (lastF fs).map (·.name) ↔ a ∈ fs.map (·.name)
  | [] => Iff.rfl
  | f :: r => by
    have ih := last_names a r
    rw [lastF]
    split
    · rename_i h
      rw [ih, List.map_cons, List.mem_cons]
      constructor
      · exact .inr
      · rintro (e | e)
        · obtain ⟨g, hg, hgn⟩ := List.any_eq_true.1 h
          rw [e, ← of_decide_eq_true hgn]
          exact List.mem_map_of_mem hg
        · exact e
    · rw [List.map_cons, List.map_cons, List.mem_cons, List.mem_cons, ih]
theorem last_nodup : ∀ fs : List Cl.Fd, ((lastF fs).map (·.name)).Nodup
  | [] => List.nodup_nil
  | f :: r => by
    rw [lastF]
    split
    · exact last_nodup r
    · rename_i h
      rw [List.map_cons, List.nodup_cons]
      refine ⟨fun hm => h ?_, last_nodup r⟩
      rw [last_names] at hm
      obtain ⟨g, hg, e⟩ := List.mem_map.1 hm
      exact List.any_eq_true.2 ⟨g, hg, decide_eq_true e⟩
theorem fold_look (n : ByteArray) : ∀ (fs : List Cl.Fd) (S : List NP), lookG (fs.foldl (fun S f => putG f.name (pvOf f.k f.t f.b f.z f.l) S) S) n = (lookG ((lastF fs).map fld) n).or (lookG S n)
  | [], S => by simp [lastF, lookG_nil]
  | f :: r, S => by
    rw [List.foldl_cons, fold_look n r, lookG_putG, lastF]
    by_cases e : n = f.name
    · rw [if_pos e]
      split
      · rename_i h
        obtain ⟨g, hg, hgn⟩ := List.any_eq_true.1 h
        cases hl : lookG ((lastF r).map fld) n with
        | some x => rfl
        | none =>
          rw [lookG_none, fld_names, last_names] at hl
          exact absurd (by rw [e, ← of_decide_eq_true hgn]; exact List.mem_map_of_mem hg) hl
      · rename_i h
        have : lookG ((lastF r).map fld) n = none := by
          rw [lookG_none, fld_names, last_names]
          intro hm
          obtain ⟨g, hg, e2⟩ := List.mem_map.1 hm
          exact h (List.any_eq_true.2 ⟨g, hg, decide_eq_true (by rw [e2, e])⟩)
        rw [this, List.map_cons, lookG_cons, if_pos (show (fld f).1 = n from e.symm)]
        rfl
    · rw [if_neg e]
      split
      · rfl
      · rw [List.map_cons, lookG_cons, if_neg (show ¬ (fld f).1 = n from fun e2 => e e2.symm)]
theorem clm_look (fs : List Cl.Fd) (n : ByteArray) : lookG (clm fs) n = lookG ((lastF fs).map fld) n := by
  unfold clm
  rw [fold_look, lookG_nil, Option.or_none]
theorem run_sets_ans (k : Nat) : ∀ (L : List Cl.Fd) (S : List NP), (runS k ((setsM 0 L).map stT) S).1 = L.map (fun f => (takeK k f.name (fld f).2).isSome)
  | [], S => rfl
  | f :: L, S => by
    show (stepS k S (0, fld f)).1 :: (runS k ((setsM 0 L).map stT) (stepS k S (0, fld f)).2).1 = _
    rw [run_sets_ans k L, List.map_cons]
    congr 1
    unfold stepS
    rw [if_pos rfl]
    show _ = (takeK k (fld f).1 (fld f).2).isSome
    cases takeK k (fld f).1 (fld f).2 <;> rfl
theorem run_sets_tk (k : Nat) (n : ByteArray) : ∀ (L : List Cl.Fd) (S : List NP), (L.map (·.name)).Nodup → lookG (runS k ((setsM 0 L).map stT) S).2 n = ((lookG (L.map fld) n).bind (takeK k n)).or (lookG S n)
  | [], S, _ => by simp [setsM, runS, lookG_nil]
  | f :: L, S, h => by
    rw [List.map_cons, List.nodup_cons] at h
    show lookG (runS k ((setsM 0 L).map stT) (stepS k S (0, fld f)).2).2 n = _
    rw [run_sets_tk k n L _ h.2, List.map_cons, lookG_cons]
    have hs : (stepS k S (0, fld f)).2 = match takeK k (fld f).1 (fld f).2 with | some y => putG (fld f).1 y S | none => S := by
      unfold stepS
      rw [if_pos rfl]
      show (match takeK k (fld f).1 (fld f).2 with | some y => (true, putG (fld f).1 y S) | none => (false, S)).2 = _
      cases takeK k (fld f).1 (fld f).2 <;> rfl
    rw [hs]
    by_cases e : (fld f).1 = n
    · rw [if_pos e]
      have : lookG (L.map fld) n = none := by
        rw [lookG_none, fld_names, ← e]
        exact h.1
      rw [this, e, Option.bind_none, Option.none_or, Option.bind_some]
      cases takeK k n (fld f).2 with
      | none => rfl
      | some y => rw [lookG_putG, if_pos rfl]; rfl
    · rw [if_neg e]
      cases takeK k (fld f).1 (fld f).2 with
      | none => rfl
      | some y =>
        show _ = _
        rw [lookG_putG, if_neg (fun e2 => e e2.symm)]
theorem built_ok {fs : List Cl.Fd} (h : ∀ n ∈ (clm fs).map (·.1), tkn 2 (clm fs) n ≠ none) : decide (false ∈ (runS 2 ((setsM 0 (lastF fs)).map stT) []).1) = false := by
  rw [decide_eq_false_iff_not, run_sets_ans]
  intro hm
  obtain ⟨f, hf, e⟩ := List.mem_map.1 hm
  have hl : lookG (clm fs) f.name = some (fld f).2 := by
    rw [clm_look]
    exact lookG_of_mem (by rw [fld_names]; exact last_nodup fs) (List.mem_map_of_mem (f := fld) hf)
  refine h f.name ?_ ?_
  · refine Classical.byContradiction fun hc => ?_
    rw [lookG_none.2 hc] at hl; cases hl
  · unfold tkn
    rw [hl, Option.bind_some]
    cases hx : takeK 2 f.name (fld f).2 with
    | none => rfl
    | some y => rw [hx] at e; cases e
theorem built_no {fs : List Cl.Fd} {n : ByteArray} (hn : n ∈ (clm fs).map (·.1)) (h : tkn 2 (clm fs) n = none) : decide (false ∈ (runS 2 ((setsM 0 (lastF fs)).map stT) []).1) = true := by
  rw [decide_eq_true_iff, run_sets_ans]
  cases hl : lookG (clm fs) n with
  | none => exact absurd hn (lookG_none.1 hl)
  | some x =>
    have hm := hl
    rw [clm_look] at hm
    obtain ⟨f, hf, e⟩ := List.mem_map.1 (lookG_mem hm)
    refine List.mem_map.2 ⟨f, hf, ?_⟩
    unfold tkn at h
    rw [hl, Option.bind_some] at h
    have e1 : f.name = n := congrArg Prod.fst e
    have e2 : (fld f).2 = x := congrArg Prod.snd e
    rw [e1, e2, h]; rfl
theorem built_same (fs : List Cl.Fd) (n : ByteArray) : lookG (runS 2 ((setsM 0 (lastF fs)).map stT) []).2 n = tkn 2 (clm fs) n := by
  rw [run_sets_tk 2 n _ _ (last_nodup fs), lookG_nil, Option.or_none]
  unfold tkn
  rw [clm_look]
/-- Two sorted rows of fields of the same names and values are the same. -/
theorem fields_same {gs hs : List Cl.Fd} {T U : List NP} (h1 : (gs.map fld).Perm T) (s1 : SortedN gs) (n1 : (T.map (·.1)).Nodup) (h2 : (hs.map fld).Perm U) (s2 : SortedN hs) (n2 : (U.map (·.1)).Nodup) (h : Same T U) : gs.map fld = hs.map fld :=
  sorted_unique (h1.trans ((h.perm n1 n2).trans h2.symm)) ((h1.map (·.1)).nodup_iff.2 n1) (sortedN_map s1) (sortedN_map s2)
def nIss : ByteArray := ⟨#[105, 115, 115]⟩
theorem iss_clm : clm [fdT nIss vA] = [(nIss, .txt vA)] := by
  show putG nIss (PV.txt vA) [] = [(nIss, PV.txt vA)]
  rw [putG_out (by simp)]; rfl
theorem iss_tkn : tkn 2 (clm [fdT nIss vA]) nIss = some (.txt vA) := by rw [iss_clm]; kernel_rfl
theorem iss_in : ∀ f ∈ [fdT nIss vA], FdIn 2 f := fun f hf => by rw [List.mem_singleton.1 hf]; exact fdT_in (not_oth 2 _ (by kernel_rfl))
theorem iss_same {T : List NP} (h : ∀ n, lookG T n = tkn 2 (clm [fdT nIss vA]) n) : Same T [(nIss, .txt vA)] := fun n => by
  rw [h, lookG_cons]
  by_cases e : nIss = n
  · rw [if_pos e, ← e, iss_tkn]
  · rw [if_neg e]
    unfold tkn
    rw [iss_clm, lookG_cons, if_neg e]; rfl
theorem one_fl (w : World) (a b : ByteArray) : FL (w.alloc (.cells #[.string a, .int .i64 0, .string b, .bool false, .int .i32 0, .slice none 0 0] 45)) (some ⟨w.heap.size, 0, none⟩) 1 [fdT a b] :=
  ⟨reads_lit w 6 1 (fvs [fdT a b]) _ rfl rfl _, fun f hf => by rw [List.mem_singleton.1 hf]; exact nil_sl _⟩
theorem one_fk (a b : ByteArray) : ∀ f ∈ [fdT a b], FK f := fun f hf => by rw [List.mem_singleton.1 hf]; exact ⟨Int.le_refl _, by show (0 : Int) ≤ 3; decide, Nat.zero_le _⟩
set_option maxRecDepth 100000 in
set_option maxHeartbeats 4000000 in
theorem builtAwake_calls (w : World) : Calls Tryz.prog 38 #[] w (BoolB w true) := by
  have HT := Lib.hid mapText_calls
  go_enter Tryz.func38, Tryz.ntmps38
  go_wp2_with fail
  refine (HT.out w nIss vA).mono ?_
  rintro e w1 ⟨rfl, hb1⟩
  have HB2 := Lib.hid (below_alloc' hb1 (.cells #[.string nIss, .int .i64 0, .string vA, .bool false, .int .i32 0, .slice none 0 0] 45))
  have HBU := Lib.hid (Built_calls (c := 1) (one_fl w1 nIss vA) iss_in (by decide))
  clear hb1
  go_wp2_with fail
  refine HBU.out.mono ?_
  rintro e w3 (⟨A3, n3, c3, gs, T, rfl, hn3, hfo, hpm, hsrt, hnd, htk, hal, hb3⟩ | ⟨n6, rfl, hm6, ht6, hb⟩)
  · have HE : Hid (gs.map fld = [fdT nIss vA].map fld) := Lib.hid (fields_same hpm hsrt hnd (T := T) (hs := [fdT nIss vA]) (U := [(nIss, .txt vA)]) (List.Perm.refl _) (List.pairwise_singleton _ _) (by simp) (iss_same htk))
    have HB3 := Lib.hid (K.below_then HB2.out hb3)
    have HFO := Lib.hid (And.intro hn3 hfo)
    clear hn3 hfo hpm hsrt hnd htk hal hb3 HBU HB2
    go_wp2_with fail
    refine (HT.out w3 nIss vA).mono ?_
    rintro e w4 ⟨rfl, hb4⟩
    have HB4 := Lib.hid (below_alloc' (K.below_then HB3.out hb4) (.cells #[.string nIss, .int .i64 0, .string vA, .bool false, .int .i32 0, .slice none 0 0] 45))
    have HF4 := Lib.hid ((HFO.out.2.below hb4).below (below_alloc' (Below.refl _ _) (.cells #[.string nIss, .int .i64 0, .string vA, .bool false, .int .i32 0, .slice none 0 0] 45)))
    have HMS := Lib.hid (MapSame_calls _ A3 (some ⟨w4.heap.size, 0, none⟩) n3 c3 1 1 gs [fdT nIss vA] (HF4.out.fl HFO.out.1) (one_fl w4 nIss vA) HF4.out.fk (one_fk _ _) (by have h := congrArg List.length HE.out; rw [List.length_map] at h; rw [HFO.out.1, h]; show 1 ≤ 1000000; decide))
    clear hb4
    go_wp2_with fail
    refine HMS.out.mono ?_
    rintro e w5 ⟨r, rfl, hr, hb5⟩
    obtain rfl : r = true := hr.2 HE.out
    have HB5 := Lib.hid (K.below_then HB4.out hb5)
    clear hr hb5 HMS
    go_wp2
    go_ret
    exact ⟨rfl, HB5.out⟩
  · exfalso
    rw [iss_clm, List.map_cons, List.map_nil, List.mem_singleton] at hm6
    rw [hm6, iss_tkn] at ht6
    cases ht6
set_option maxRecDepth 100000 in
set_option maxHeartbeats 16000000 in
theorem FnBuiltSet_calls (w : World) (A : Option Addr) (m c : Nat) (fs : List Cl.Fd) (h : FL w A m fs) (hmc : m ≤ c) (hz : ∀ f ∈ fs, FZ f) :
    Calls Tryz.prog 9 #[.slice A m c] w (BoolB w true) := by
  have HF := Lib.hid (And.intro h (And.intro hz hmc))
  have HFI := Lib.hid (zzFits4_calls w A m c fs h)
  have HAW := Lib.hid builtAwake_calls
  have HLN := Lib.hid h.len
  clear h hz hmc
  go_enter Tryz.func9, Tryz.ntmps9
  go_wp2_with fail
  refine HFI.out.mono ?_
  rintro e w1 ⟨⟨r, rfl⟩, hb1⟩
  have HB1 := Lib.hid hb1
  clear hb1 HFI
  cases r with
  | false =>
    go_wp2
    go_ret
    exact ⟨rfl, HB1.out⟩
  | true =>
    have HSH := Lib.hid (mapShort_calls _ 2 (by decide) A m c fs (HF.out.1.below HB1.out (Nat.le_refl _)))
    go_wp2_with fail
    refine HSH.out.mono ?_
    rintro e w2 ⟨r, rfl, hsh, hb2⟩
    have HB2 := Lib.hid (K.below_then HB1.out hb2)
    have HSO := Lib.hid hsh
    clear hb2 hsh HSH
    cases r with
    | false =>
      go_wp2_with fail
      refine (HAW.out w2).mono ?_
      rintro e w3 ⟨rfl, hb3⟩
      have HB3 := Lib.hid (K.below_then HB2.out hb3)
      clear hb3
      go_wp2
      go_ret
      exact ⟨rfl, HB3.out⟩
    | true =>
      have HSL := Lib.hid (HSO.out rfl)
      have HIN : Hid (∀ f ∈ fs, FdIn 2 f) := Lib.hid (fun f hf => in_of_short (HSL.out.2 f hf) (HF.out.1.2 f hf) (HF.out.2.1 f hf))
      have hm100 : m ≤ 100 := HSL.out.1
      have HF2 := Lib.hid (HF.out.1.below HB2.out (Nat.le_refl _))
      have HBU := Lib.hid (Built_calls (c := c) HF2.out HIN.out (by omega))
      clear HSO
      go_wp2_with fail
      refine HBU.out.mono ?_
      intro e w3 hbu
      obtain ⟨ok, A3, n3, c3, rfl, HOK, hb3⟩ : ∃ (ok : Bool) (A3 : Option Addr) (n3 c3 : Nat), e = .returned (.tuple #[.slice A3 n3 c3, .bool ok]) ∧ Hid (decide (false ∈ (runS 2 ((setsM 0 (lastF fs)).map stT) []).1) = !ok ∧ (ok = true → ∃ gs T, n3 = gs.length ∧ FO w3 0 (.slice A3 n3 c3) gs ∧ (gs.map fld).Perm T ∧ SortedN gs ∧ (T.map (·.1)).Nodup ∧ (∀ n, lookG T n = tkn 2 (clm fs) n))) ∧ Below w2.heap.size w2 w3 := by
        rcases hbu with ⟨A3, n3, c3, gs, T, rfl, h1, h2, h3, h4, h5, h6, h7, h8⟩ | ⟨n6, rfl, h1, h2, h3⟩
        · exact ⟨true, A3, n3, c3, rfl, ⟨built_ok h7, fun _ => ⟨gs, T, h1, h2.base (Nat.zero_le _), h3, h4, h5, h6⟩⟩, h8⟩
        · exact ⟨false, none, 0, 0, rfl, ⟨built_no h1 h2, fun h => by cases h⟩, h3⟩
      have HB23 := Lib.hid hb3
      have HB3 := Lib.hid (K.below_then HB2.out hb3)
      have HLA := Lib.hid (claimLast_calls w3 A m c fs (HF2.out.below hb3 (Nat.le_refl _)) (by omega) HF.out.2.2)
      clear hbu hb3 HBU
      go_wp2_with fail
      refine HLA.out.mono ?_
      rintro e w4 ⟨A4, n4, c4, rfl, hfl4, hb4⟩
      have HB4 := Lib.hid (K.below_then HB3.out hb4)
      have HB34 := Lib.hid hb4
      have HF4 := Lib.hid hfl4
      have HL4 := Lib.hid hfl4.len
      have hn4 : n4 ≤ 100 := by have h1 := HL4.out; have h2 := lastF_len fs; have h3 := HLN.out; omega
      have HST := Lib.hid (mapSets_calls w4 A4 n4 c4 (lastF fs) hfl4 (by omega))
      clear hfl4 hb4 HLA
      go_wp2_with fail
      refine HST.out.mono ?_
      rintro e w5 ⟨A5, n5, c5, rfl, hn5, hown5, hb5⟩
      obtain rfl : n5 = n4 := hn5.trans HL4.out.symm
      have HB5 := Lib.hid (K.below_then HB4.out hb5)
      have HB35 := Lib.hid (K.below_then HB34.out hb5)
      have hml : ML w5 A5 n5 (setsM 0 (lastF fs)) := by
        refine ⟨by have h := hown5; rw [sets_len, ← HL4.out] at h; exact Reads.of_own h, fun s hs => ?_⟩
        obtain ⟨f, hf, rfl⟩ := List.mem_map.1 hs
        exact (HF4.out.2 f hf).below hb5 (Nat.le_refl _)
      have hfi : ∀ s ∈ setsM 0 (lastF fs), FdIn 2 s.f := fun s hs => by
        obtain ⟨f, hf, rfl⟩ := List.mem_map.1 hs
        exact HIN.out f (lastF_mem hf)
      have hkd : ∀ s ∈ setsM 0 (lastF fs), s.kd ≠ 3 := fun s hs => by
        obtain ⟨f, hf, rfl⟩ := List.mem_map.1 hs
        simp
      have HMP := Lib.hid (Mapped_calls (k := 2) (by decide) (c := c5) hml hfi (by omega) (.inl hkd))
      clear hn5 hown5 hb5 hml hfi hkd HST
      go_wp2_with fail
      refine HMP.out.mono ?_
      rintro e w6 ⟨A6, n6, c6, A7, n7, c7, gs, rfl, hbo, hn6, hfo, hn7, hpm, hsrt, hb6⟩
      obtain rfl : n6 = n5 := by rw [hn6, sets_len]; exact HL4.out.symm
      have HB6 := Lib.hid (K.below_then HB5.out hb6)
      have HB36 := Lib.hid (K.below_then HB35.out hb6)
      have hbl := hbo.bl (by rw [runS_len, List.length_map]; exact hn6)
      have HCO := Lib.hid (BContains_calls (c := c6) hbl (by omega) false)
      rw [HOK.out.1] at HCO
      have H6 := Lib.hid (And.intro hn7 (And.intro hfo (And.intro hpm hsrt)))
      clear hbo hn6 hfo hn7 hpm hsrt hb6 hbl HMP
      go_wp2_with fail
      refine HCO.out.mono ?_
      rintro e w7 ⟨rfl, hb7⟩
      have HB7 := Lib.hid (K.below_then HB6.out hb7)
      have HB37 := Lib.hid (K.below_then HB36.out hb7)
      have HF7 := Lib.hid (H6.out.2.1.below hb7)
      clear hb7 HCO
      cases ok with
      | true =>
        obtain ⟨hs, T, hn3, hfo3, hpm3, hsrt3, hnd3, htk3⟩ := HOK.out.2 rfl
        have HE : Hid (hs.map fld = gs.map fld) := Lib.hid (fields_same hpm3 hsrt3 hnd3 H6.out.2.2.1 H6.out.2.2.2 (Good.run (k := 2) _ (Good.nil 2) (stT_ok (fun s hs => by
          obtain ⟨f, hf, rfl⟩ := List.mem_map.1 hs
          exact HIN.out f (lastF_mem hf)))).1.nd (fun n => by rw [htk3, built_same]))
        have HF3 := Lib.hid (hfo3.below HB37.out)
        have HMS := Lib.hid (MapSame_calls w7 A3 A7 n3 c3 n7 c7 hs gs (HF3.out.fl hn3) (HF7.out.fl H6.out.1) HF3.out.fk HF7.out.fk (by
          have h1 := congrArg List.length HE.out
          have h2 := H6.out.2.2.1.length_eq
          have h3 := (Good.run (k := 2) ((setsM 0 (lastF fs)).map stT) (Good.nil 2) (stT_ok (fun s hs => by
            obtain ⟨f, hf, rfl⟩ := List.mem_map.1 hs
            exact HIN.out f (lastF_mem hf)))).2
          rw [List.length_map, List.length_map] at h1
          rw [List.length_map] at h2
          rw [List.length_map, sets_len, List.length_nil] at h3
          have h4 := HL4.out
          omega))
        clear hn3 hfo3 hpm3 hsrt3 hnd3 htk3
        go_wp2_with fail
        refine HMS.out.mono ?_
        rintro e w8 ⟨r, rfl, hr, hb8⟩
        obtain rfl : r = true := hr.2 HE.out
        have HB8 := Lib.hid (K.below_then HB7.out hb8)
        clear hr hb8 HMS
        go_wp2_with fail
        refine (HAW.out w8).mono ?_
        rintro e w9 ⟨rfl, hb9⟩
        have HB9 := Lib.hid (K.below_then HB8.out hb9)
        clear hb9
        go_wp2
        go_ret
        exact ⟨rfl, HB9.out⟩
      | false =>
        go_wp2_with fail
        refine (HAW.out w7).mono ?_
        rintro e w9 ⟨rfl, hb9⟩
        have HB9 := Lib.hid (K.below_then HB7.out hb9)
        clear hb9
        go_wp2
        go_ret
        exact ⟨rfl, HB9.out⟩
end Go.Proofs.YtapjbdigpleekaaGreat.Mp
