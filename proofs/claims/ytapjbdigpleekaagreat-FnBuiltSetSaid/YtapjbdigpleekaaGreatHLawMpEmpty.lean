import Derived.Test.YtapjbdigpleekaaGreatGR
import Derived.Test.YtapjbdigpleekaaGreatGB
import Derived.Test.YtapjbdigpleekaaGreatGA
/- The law FnMapEmpty: it returns true of every input; the conditions are on what lies in memory, and the range of numbers. -/
set_option linter.unusedVariables false
set_option linter.unusedSimpArgs false
namespace Go.Proofs.YtapjbdigpleekaaGreat.Mp
open Go.RowKit Go.Proofs.YtapjbdigpleekaaGreat.K Go.Proofs.YtapjbdigpleekaaGreat.Cl
/-- A number that a field has is one of 32 bits. -/
def FZ (f : Cl.Fd) : Prop := -2147483648 ≤ f.z ∧ f.z ≤ 2147483647
theorem in_of_short {k : Nat} {w : World} {f : Cl.Fd} (h : ShF k f) (hs : SL w f.A f.n f.l) (hz : FZ f) : FdIn k f := by
  obtain ⟨_, _, h3, h4, h5, h6⟩ := h
  refine ⟨h4, h5, by omega, ?_, h6⟩
  unfold pvOf
  split
  · exact trivial
  · split
    · exact trivial
    · split
      · exact hz
      · show f.l.length ≤ 100000
        have := hs.len
        omega
theorem run_sets_look {k : Nat} : ∀ (fs : List Cl.Fd) (S : List NP) (n : ByteArray), n ∉ fs.map (·.name) → lookG (runS k ((setsM 0 fs).map stT) S).2 n = lookG S n
  | [], S, n, _ => rfl
  | f :: fs, S, n, h => by
    rw [List.map_cons, List.mem_cons] at h
    show lookG (runS k ((setsM 0 fs).map stT) (stepS k S (0, fld f)).2).2 n = _
    rw [run_sets_look fs _ n (fun hm => h (.inr hm))]
    unfold stepS
    rw [if_pos rfl]
    split
    · rw [lookG_putG]; exact if_neg (fun e => h (.inl e))
    · rfl
theorem run_drops_look {k : Nat} : ∀ (fs : List Cl.Fd) (S : List NP) (n : ByteArray), (n ∈ fs.map (·.name) ∨ lookG S n = none) → lookG (runS k ((setsM 1 fs).map stT) S).2 n = none
  | [], S, n, h => by
    rcases h with h | h
    · cases h
    · exact h
  | f :: fs, S, n, h => by
    show lookG (runS k ((setsM 1 fs).map stT) (stepS k S (1, fld f)).2).2 n = none
    refine run_drops_look fs _ n ?_
    have e : (stepS k S (1, fld f)).2 = dropG f.name S := by
      unfold stepS
      rw [if_neg (show ¬ (1 : Int) = 0 by decide), if_pos rfl]
      rfl
    rw [e, lookG_dropG]
    rcases h with h | h
    · rw [List.map_cons, List.mem_cons] at h
      rcases h with h | h
      · right; rw [if_pos h]
      · exact .inl h
    · right
      rw [h]
      split <;> rfl
theorem run_has_nil {k : Nat} : ∀ (fs : List Cl.Fd), runS k ((setsM 2 fs).map stT) [] = (List.replicate fs.length false, [])
  | [] => rfl
  | f :: fs => by
    have e : stepS k [] (2, fld f) = (false, []) := by
      unfold stepS
      rw [if_neg (show ¬ (2 : Int) = 0 by decide), if_neg (show ¬ (2 : Int) = 1 by decide), if_pos rfl]
      rfl
    rw [show (setsM 2 (f :: fs)).map stT = (2, fld f) :: (setsM 2 fs).map stT from rfl, runS, e, run_has_nil fs]
    rfl
theorem look_nil {S : List NP} (h : ∀ n, lookG S n = none) : S = [] := by
  cases S with
  | nil => rfl
  | cons p S =>
    have := h p.1
    rw [lookG_cons, if_pos rfl] at this
    cases this
theorem empty_run {k : Nat} (fs : List Cl.Fd) : (runS k (((setsM 0 fs ++ setsM 1 fs) ++ setsM 2 fs).map stT) []).2 = [] ∧ ((runS k (((setsM 0 fs ++ setsM 1 fs) ++ setsM 2 fs).map stT) []).1.drop (fs.length + fs.length)) = List.replicate fs.length false := by
  have h0 : (runS k ((setsM 0 fs ++ setsM 1 fs).map stT) []).2 = [] := by
    rw [List.map_append, runS_append]
    refine look_nil fun n => run_drops_look fs _ n ?_
    by_cases hn : n ∈ fs.map (·.name)
    · exact .inl hn
    · exact .inr (by rw [run_sets_look fs [] n hn]; rfl)
  have hl : (runS k ((setsM 0 fs ++ setsM 1 fs).map stT) []).1.length = fs.length + fs.length := by rw [runS_len, List.length_map, List.length_append, sets_len, sets_len]
  rw [List.map_append, runS_append, h0, run_has_nil]
  refine ⟨rfl, ?_⟩
  rw [List.drop_append_of_le_length (by omega), List.drop_of_length_le (by omega)]
  rfl
/-- Steps that are put one behind the other. -/
def MRow (w wr : World) (A : Option Addr) (n c : Nat) (ss : List Ms) : Prop := wr.ownsRow w.heap.size 52 7 (.slice A n c) ss.length (mvs ss) ∧ Below w.heap.size w wr
set_option maxRecDepth 100000 in
set_option maxHeartbeats 16000000 in
theorem FnMapEmpty_calls (w : World) (n : Nat) (hn : n ≤ 255) (A : Option Addr) (m c : Nat) (fs : List Cl.Fd) (h : FL w A m fs) (hz : ∀ f ∈ fs, FZ f) :
    Calls Tryz.prog 6 #[.int .u8 (n : Int), .slice A m c] w (BoolB w true) := by
  have HF := Lib.hid (And.intro h hz)
  have HFI := Lib.hid (zzFits4_calls w A m c fs h)
  have HWH := Lib.hid (fun W => mapWhich_calls W n hn)
  have hk : n % 4 < 4 := Nat.mod_lt _ (by decide)
  obtain ⟨k, hkk⟩ : ∃ k, k = n % 4 := ⟨_, rfl⟩
  rw [← hkk] at HWH hk
  have HAW := Lib.hid mapAwake_calls
  have HLN := Lib.hid h.len
  clear h hz hkk hn
  go_enter Tryz.func6, Tryz.ntmps6
  go_wp2_with fail
  refine HFI.out.mono ?_
  rintro e w1 ⟨⟨r, rfl⟩, hb1⟩
  have HB1 := Lib.hid hb1
  clear hb1 HFI
  cases r with
  | false =>
    go_wp2
    go_ret
    exact ⟨rfl, HB1.out⟩
  | true =>
    go_wp2_with fail
    refine (HWH.out w1).mono ?_
    rintro e w2 ⟨rfl, rfl⟩
    have HSH := Lib.hid (mapShort_calls _ k hk A m c fs (HF.out.1.below HB1.out (Nat.le_refl _)))
    go_wp2_with fail
    refine HSH.out.mono ?_
    rintro e w2 ⟨r, rfl, hsh, hb2⟩
    have HB2 := Lib.hid (K.below_then HB1.out hb2)
    have HSO := Lib.hid hsh
    clear hb2 hsh HSH HWH
    cases r with
    | false =>
      go_wp2_with fail
      refine (HAW.out w2).mono ?_
      rintro e w3 ⟨rfl, hb3⟩
      have HB3 := Lib.hid (K.below_then HB2.out hb3)
      clear hb3
      go_wp2
      go_ret
      exact ⟨rfl, HB3.out⟩
    | true =>
      have HSL := Lib.hid (HSO.out rfl)
      have HIN : Hid (∀ f ∈ fs, FdIn k f) := Lib.hid (fun f hf => in_of_short (HSL.out.2 f hf) (HF.out.1.2 f hf) (HF.out.2 f hf))
      have hm100 : m ≤ 100 := HSL.out.1
      have HF2 := Lib.hid (HF.out.1.below HB2.out (Nat.le_refl _))
      have HST := Lib.hid (mapSets_calls w2 A m c fs HF2.out (by omega))
      clear HSO
      go_wp2_with fail
      refine HST.out.mono ?_
      rintro e w3 ⟨A6, n6, c6, rfl, hn6, hown6, hb6⟩
      have e6 : n6 = m := hn6.trans HLN.out.symm
      subst e6
      have HR0 : Hid (MRow w2 w3 A6 (n6 + 0) c6 (setsM 0 fs ++ setsM 1 (fs.take 0))) := Lib.hid ⟨by simpa [setsM] using hown6, hb6⟩
      clear hn6 hown6 hb6 HST
      go_wp2_with fail
      go_loopg [6, 28] n6 (fun q v6 v28 wr => ∃ (j : Nat) (A' : Option Addr) (c' : Nat), q + j = n6 ∧ v28 = .int .i64 (j : Nat) ∧ v6 = .slice A' (n6 + j) c' ∧ Hid (MRow w2 wr A' (n6 + j) c' (setsM 0 fs ++ setsM 1 (fs.take j))))
      case atStart => exact ⟨0, A6, c6, rfl, rfl, rfl, HR0⟩
      case round =>
        clear HR0
        obtain ⟨j, A', c', hqj, rfl, rfl, HR⟩ := hrel
        by_cases hj : j < n6
        · have hjl : j < fs.length := by have := HLN.out; omega
          have hji : (j : Int) < (n6 : Int) := by omega
          obtain ⟨ad, rfl, y0, y1, y2, y3, y4, y5, hsl⟩ := (HF2.out.below HR.out.2 (Nat.le_refl _)).at_ hjl
          have HTK := Lib.hid (sets_take 1 fs j hjl)
          have HSZ : Hid (n6 + j = (setsM 0 fs ++ setsM 1 (fs.take j)).length) := Lib.hid (by rw [List.length_append, sets_len, sets_len, List.length_take]; have := HLN.out; omega)
          obtain ⟨f, hf⟩ : ∃ f, f = fs[j] := ⟨_, rfl⟩
          rw [← hf] at y0 y1 y2 y3 y4 y5 HTK
          obtain ⟨wB, hwB⟩ : ∃ wB, wB = wr.alloc (.cells #[.string f.name, .int .i64 f.k, .string f.t, .bool f.b, .int .i32 f.z, .slice f.A f.n f.c] 45) := ⟨_, rfl⟩
          have HBF : Hid (Below wr.heap.size wr wB ∧ Blk wB wr.heap.size 45 #[.string f.name, .int .i64 f.k, .string f.t, .bool f.b, .int .i32 f.z, .slice f.A f.n f.c]) := Lib.hid (by rw [hwB]; exact ⟨below_alloc' (Below.refl wr.heap.size wr) _, Blk.new wr _ _⟩)
          have HOF := Lib.hid (own_below HR.out.1 HBF.out.1)
          obtain ⟨ss, hss⟩ : ∃ ss, ss = setsM 0 fs ++ setsM 1 (fs.take j) := ⟨_, rfl⟩
          rw [← hss] at HOF HSZ
          have HSS := Lib.hid hss
          clear hf hsl hss
          go_upto_region 10 with (fail)
          rw [← hwB]
          clear hwB y0 y1 y2 y3 y4 y5
          obtain ⟨d0, d1, d2, d3, d4, d5⟩ := six_cells HBF.out.2
          go_wp2_with (at_builtin; refine own_appM (s := ⟨1, f⟩) HOF.out (Nat.le_trans HR.out.2.size HBF.out.1.size) HSZ.out (by omega) rfl _ _ rfl rfl rfl ?_; intro A8 c8 w8 hown hg8 hb8; have H8 := Lib.hid (And.intro hown hb8); clear hown hg8 hb8)
          go_roundg (n6 - (j + 1))
          case measure => omega
          case rel => exact ⟨j + 1, A8, c8, by omega, by go_num, rfl, by rw [HTK.out, ← List.append_assoc, ← HSS.out]; exact ⟨H8.out.1, (HR.out.2.trans (HBF.out.1.mono HR.out.2.size)).trans H8.out.2⟩⟩
        · have hji : ¬ (j : Int) < (n6 : Int) := by omega
          obtain rfl : j = n6 := by omega
          have HR1 : Hid (MRow w2 wr A' (j + j + 0) c' ((setsM 0 fs ++ setsM 1 fs) ++ setsM 2 (fs.take 0))) := Lib.hid (by have h := HR.out; rw [List.take_of_length_le (by have := HLN.out; omega)] at h; simpa [setsM] using h)
          obtain ⟨w4, hw4⟩ : ∃ w4, w4 = wr := ⟨wr, rfl⟩
          subst hw4
          clear HR hj hji
          go_wp2_with fail
          go_loopg [6, 42] j (fun q v6 v42 wr => ∃ (i : Nat) (A' : Option Addr) (c' : Nat), q + i = j ∧ v42 = .int .i64 (i : Nat) ∧ v6 = .slice A' (j + j + i) c' ∧ Hid (MRow w2 wr A' (j + j + i) c' ((setsM 0 fs ++ setsM 1 fs) ++ setsM 2 (fs.take i))))
          case atStart => exact ⟨0, A', c', rfl, rfl, rfl, HR1⟩
          case round =>
            clear HR1
            obtain ⟨i, A', c', hqi, rfl, rfl, HR⟩ := hrel
            by_cases hi : i < j
            · have hil : i < fs.length := by have := HLN.out; omega
              have hii : (i : Int) < (j : Int) := by omega
              obtain ⟨ad, rfl, y0, y1, y2, y3, y4, y5, hsl⟩ := (HF2.out.below HR.out.2 (Nat.le_refl _)).at_ hil
              have HTK := Lib.hid (sets_take 2 fs i hil)
              have HSZ : Hid (j + j + i = ((setsM 0 fs ++ setsM 1 fs) ++ setsM 2 (fs.take i)).length) := Lib.hid (by rw [List.length_append, List.length_append, sets_len, sets_len, sets_len, List.length_take]; have := HLN.out; omega)
              obtain ⟨f, hf⟩ : ∃ f, f = fs[i] := ⟨_, rfl⟩
              rw [← hf] at y0 y1 y2 y3 y4 y5 HTK
              obtain ⟨wB, hwB⟩ : ∃ wB, wB = wr.alloc (.cells #[.string f.name, .int .i64 f.k, .string f.t, .bool f.b, .int .i32 f.z, .slice f.A f.n f.c] 45) := ⟨_, rfl⟩
              have HBF : Hid (Below wr.heap.size wr wB ∧ Blk wB wr.heap.size 45 #[.string f.name, .int .i64 f.k, .string f.t, .bool f.b, .int .i32 f.z, .slice f.A f.n f.c]) := Lib.hid (by rw [hwB]; exact ⟨below_alloc' (Below.refl wr.heap.size wr) _, Blk.new wr _ _⟩)
              have HOF := Lib.hid (own_below HR.out.1 HBF.out.1)
              obtain ⟨ss, hss⟩ : ∃ ss, ss = (setsM 0 fs ++ setsM 1 fs) ++ setsM 2 (fs.take i) := ⟨_, rfl⟩
              rw [← hss] at HOF HSZ
              have HSS := Lib.hid hss
              clear hf hsl hss
              go_upto_region 16 with (fail)
              rw [← hwB]
              clear hwB y0 y1 y2 y3 y4 y5
              obtain ⟨d0, d1, d2, d3, d4, d5⟩ := six_cells HBF.out.2
              go_wp2_with (at_builtin; refine own_appM (s := ⟨2, f⟩) HOF.out (Nat.le_trans HR.out.2.size HBF.out.1.size) HSZ.out (by omega) rfl _ _ rfl rfl rfl ?_; intro A8 c8 w8 hown hg8 hb8; have H8 := Lib.hid (And.intro hown hb8); clear hown hg8 hb8)
              go_roundg (j - (i + 1))
              case measure => omega
              case rel => exact ⟨i + 1, A8, c8, by omega, by go_num, rfl, by rw [HTK.out, ← List.append_assoc, ← HSS.out]; exact ⟨H8.out.1, (HR.out.2.trans (HBF.out.1.mono HR.out.2.size)).trans H8.out.2⟩⟩
            · have hii : ¬ (i : Int) < (j : Int) := by omega
              obtain rfl : i = j := by omega
              have HRW := HR.out
              rw [List.take_of_length_le (by have := HLN.out; omega)] at HRW
              have hss3 : ((setsM 0 fs ++ setsM 1 fs) ++ setsM 2 fs).length = i + i + i := by rw [List.length_append, List.length_append, sets_len, sets_len, sets_len]; have := HLN.out; omega
              have hml : ML wr A' (i + i + i) ((setsM 0 fs ++ setsM 1 fs) ++ setsM 2 fs) := by
                refine ⟨by have h := HRW.1; rw [hss3] at h; exact Reads.of_own h, fun s hs => ?_⟩
                have : s.f ∈ fs := by
                  simp only [setsM, List.mem_append, List.mem_map] at hs
                  rcases hs with (⟨f, hf, rfl⟩ | ⟨f, hf, rfl⟩) | ⟨f, hf, rfl⟩ <;> exact hf
                exact (HF2.out.2 _ this).below HRW.2 (Nat.le_refl _)
              have hfi : ∀ s ∈ (setsM 0 fs ++ setsM 1 fs) ++ setsM 2 fs, FdIn k s.f := fun s hs => by
                simp only [setsM, List.mem_append, List.mem_map] at hs
                rcases hs with (⟨f, hf, rfl⟩ | ⟨f, hf, rfl⟩) | ⟨f, hf, rfl⟩ <;> exact HIN.out f hf
              have hkd : ∀ s ∈ (setsM 0 fs ++ setsM 1 fs) ++ setsM 2 fs, s.kd ≠ 3 := fun s hs => by
                simp only [setsM, List.mem_append, List.mem_map] at hs
                rcases hs with (⟨f, hf, rfl⟩ | ⟨f, hf, rfl⟩) | ⟨f, hf, rfl⟩ <;> simp
              have HMP := Lib.hid (Mapped_calls hk (c := c') hml hfi (by omega) (.inl hkd))
              have HBR := Lib.hid (HB2.out.trans (HRW.2.mono HB2.out.size))
              have HER := Lib.hid (empty_run (k := k) fs)
              have HS3 := Lib.hid hss3
              clear HRW hml hfi hkd hss3 HR
              go_wp2_with fail
              refine HMP.out.mono ?_
              rintro e w5 ⟨A1, n1, c1, A2, n2, c2, gs, rfl, hbo, hn1, hfo, hn2, hpm, hsrt, hb5⟩
              have e1 : n1 = i + i + i := hn1.trans HS3.out
              have e2 : n2 = 0 := by
                have h := hpm.length_eq
                rw [HER.out.1, List.length_map] at h
                rw [hn2, h]; rfl
              subst e1
              subst e2
              have hle : i + i + i ≤ c1 := by
                obtain ⟨A9, c9, e9, h9, _⟩ := own_form hbo.1
                injection e9 with _ _ e9
                rw [runS_len, List.length_map, HS3.out] at h9
                omega
              have hbl := hbo.bl (by rw [runS_len, List.length_map, HS3.out])
              obtain ⟨i0, hi0, _, hs0, _⟩ := info_parts info_bool
              obtain ⟨A3, hcut, hrd⟩ := cut_l (P := Tryz.prog) Tryz.underlying39 hi0 hs0 .i64 hbl hle ((i : Int) + (i : Int)) (i + i) (by omega) (by omega)
              have HB5 := Lib.hid (K.below_then HBR.out hb5)
              have hdr : ((runS k (((setsM 0 fs ++ setsM 1 fs) ++ setsM 2 fs).map stT) []).1.map Value.bool).drop ((i + i) * 1) = (List.replicate fs.length false).map Value.bool := by
                rw [← List.map_drop, Nat.mul_one, ← HER.out.2]
                have := HLN.out
                rw [this]
              rw [hdr, show i + i + i - (i + i) = i by omega] at hrd
              rw [show i + i + i - (i + i) = i by omega] at hcut
              have HCO := Lib.hid (BContains_calls (c := c1 - (i + i)) (show BL w5 A3 i (List.replicate fs.length false) from hrd) (by omega) true)
              have hnt : decide (true ∈ List.replicate fs.length false) = false := decide_eq_false (fun h => by have := List.eq_of_mem_replicate h; cases this)
              rw [hnt] at HCO
              clear hbo hn1 hfo hn2 hpm hsrt hb5 hbl hrd hdr hnt hi0 hs0 HMP
              go_wp2_with fail
              refine HCO.out.mono ?_
              rintro e w6 ⟨rfl, hb6⟩
              have HB6 := Lib.hid (K.below_then HB5.out hb6)
              clear hb6 HCO
              go_wp2_with fail
              refine (HAW.out w6).mono ?_
              rintro e w7 ⟨rfl, hb7⟩
              have HB7 := Lib.hid (K.below_then HB6.out hb7)
              clear hb7
              go_wp2
              go_ret
              exact ⟨rfl, HB7.out⟩
end Go.Proofs.YtapjbdigpleekaaGreat.Mp
