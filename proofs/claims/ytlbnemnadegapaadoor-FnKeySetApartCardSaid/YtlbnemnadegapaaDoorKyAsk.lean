/- What questions at each index give; which private names there are. -/
import Derived.Test.YtlbnemnadegapaaDoorKyMoves
set_option linter.unusedVariables false
set_option linter.unusedSimpArgs false
namespace Go.Proofs.YtlbnemnadegapaaDoor.Ky
open Go.RowKit Go.Proofs.YtlbnemnadegapaaDoor.K Go.Proofs.YtlbnemnadegapaaDoor.Nm
def Qp (s : ByteArray) : Prop := s ∈ [⟨#[112]⟩ ++ nmT 0, ⟨#[112]⟩ ++ nmT 1, ⟨#[112]⟩ ++ nmT 2, ⟨#[112]⟩ ++ nmT 3, ⟨#[112]⟩ ++ nmT 4]
theorem Qp_few (l : List ByteArray) (hn : l.Nodup) (h : ∀ s ∈ l, Qp s) : l.length ≤ 12 :=
  Nat.le_trans (List.Nodup.length_le_of_subset hn (l₂ := [⟨#[112]⟩ ++ nmT 0, ⟨#[112]⟩ ++ nmT 1, ⟨#[112]⟩ ++ nmT 2, ⟨#[112]⟩ ++ nmT 3, ⟨#[112]⟩ ++ nmT 4]) (fun s hs => by have := h s hs; unfold Qp at this; exact this)) (by simp)
theorem pn_keys (k : Int) : (⟨#[112]⟩ ++ nmT k : ByteArray) ≠ nKeys := by
  intro e
  have := congrArg ByteArray.size e
  rw [ByteArray.size_append, nmT_size] at this
  exact absurd this (by decide)
theorem mvS_ok (K : Nat) (m : MV) (h : OKm m) : (0 ≤ (mvS K m).kind ∧ (mvS K m).kind ≤ 8) ∧ ((mvS K m).kind = 7 → Qp (mvS K m).id ∧ (mvS K m).id ≠ nKeys) := by
  obtain ⟨_, _, _, h6, h7⟩ := h
  refine ⟨⟨by show 0 ≤ m.kind % 9; omega, by show m.kind % 9 ≤ 8; omega⟩, fun hk => ?_⟩
  have hk' : m.kind % 9 = 7 := hk
  have e : (mvS K m).id = ⟨#[112]⟩ ++ nmT (m.id % 5) := by unfold mvS; simp [hk']
  rw [e]
  refine ⟨?_, pn_keys _⟩
  have h5 : m.id % 5 = 0 ∨ m.id % 5 = 1 ∨ m.id % 5 = 2 ∨ m.id % 5 = 3 ∨ m.id % 5 = 4 := by omega
  unfold Qp
  rcases h5 with h5 | h5 | h5 | h5 | h5 <;> rw [h5] <;> simp
/-- The steps of FnKeySetIndex. -/
def ixSteps (n : Nat) (ms : List MV) (far : Int) : List ST := ms.map (mvS n) ++ asks ⟨#[]⟩ n ++ [⟨3, 0, far, ⟨#[]⟩, ⟨#[]⟩⟩]
theorem ixSteps_len (n : Nat) (ms : List MV) (far : Int) : (ixSteps n ms far).length = ms.length + 2 * n + 1 := by
  unfold ixSteps
  rw [List.length_append, List.length_append, asks_len]
  simp
theorem asks_mem {e : ByteArray} {s : ST} : ∀ {n : Nat}, s ∈ asks e n → s.kind = 2 ∨ s.kind = 3
  | 0, h => by simp [asks] at h
  | n + 1, h => by
    rw [asks_succ] at h
    rcases List.mem_append.1 h with h | h
    · exact asks_mem h
    · simp only [List.mem_cons, List.not_mem_nil, or_false] at h
      rcases h with rfl | rfl
      · exact .inl rfl
      · exact .inr rfl
theorem ixSteps_ok (n : Nat) (ms : List MV) (hm : ∀ m ∈ ms, OKm m) (far : Int) : (∀ s ∈ ixSteps n ms far, 0 ≤ s.kind ∧ s.kind ≤ 8) ∧ (∀ s ∈ ixSteps n ms far, s.kind = 7 → Qp s.id ∧ s.id ≠ nKeys) := by
  have : ∀ s ∈ ixSteps n ms far, (0 ≤ s.kind ∧ s.kind ≤ 8) ∧ (s.kind = 7 → Qp s.id ∧ s.id ≠ nKeys) := by
    intro s hs
    unfold ixSteps at hs
    rcases List.mem_append.1 hs with hs | hs
    · rcases List.mem_append.1 hs with hs | hs
      · obtain ⟨m, hmm, rfl⟩ := List.mem_map.1 hs
        exact mvS_ok n m (hm m hmm)
      · rcases asks_mem hs with h | h
        · exact ⟨by omega, fun e => by omega⟩
        · exact ⟨by omega, fun e => by omega⟩
    · rw [List.mem_singleton.1 hs]
      exact ⟨⟨by show (0 : Int) ≤ 3; omega, by show (3 : Int) ≤ 8; omega⟩, fun e => absurd (show (3 : Int) = 7 from e) (by omega)⟩
  exact ⟨fun s hs => (this s hs).1, fun s hs => (this s hs).2⟩
section
variable {Ks : List Nat} {ids : Nat → Option ByteArray} {ms : List MV} {n : Nat} {far : Int}
theorem ask_a (hn : Ks.Nodup) (hl : Ks.length = n) (i : Nat) (hi : i < n) {s : SN} (h : (runB Ks ids [] (ixSteps n ms far))[ms.length + 2 * i]? = some s) : s.idx = ixI s.all (i : Nat) := by
  subst hl
  have := (asks_get Ks ids ⟨#[]⟩ (ms.map (mvS Ks.length)) far i hi).1
  rw [List.length_map] at this
  unfold ixSteps at h
  rw [this] at h
  injection h with h
  subst h
  show ix _ _ = ixI (List.map _ _) _
  rw [ixI_ix hn (endB_sub (show Sub Ks [] from ⟨List.nodup_nil, fun x hx => by simp at hx⟩)).2 i hi]
theorem run_few (hn : Ks.Nodup) : ∀ (ss : List ST) (S : List Nat), Sub Ks S → ∀ s ∈ runB Ks ids S ss, s.all.length ≤ Ks.length
  | [], _, _, s, h => by simp [runB] at h
  | t :: r, S, hS, s, h => by
    rw [runB] at h
    rcases List.mem_cons.1 h with rfl | h
    · show (List.map _ _).length ≤ _
      rw [List.length_map]
      exact (stB_sub hS).len
    · exact run_few hn r _ (stB_sub hS) s h
theorem ask_few (hn : Ks.Nodup) (hl : Ks.length = n) {ss : List ST} {j : Nat} {s : SN} (h : (runB Ks ids [] ss)[j]? = some s) : s.all.length ≤ n := by
  subst hl
  exact run_few hn ss [] ⟨List.nodup_nil, fun x hx => by simp at hx⟩ s (List.mem_of_getElem? h)
theorem ask_b (hl : Ks.length = n) (i : Nat) (hi : i < n) {s : SN} (h : (runB Ks ids [] (ixSteps n ms far))[ms.length + 2 * i + 1]? = some s) : s.ok = decide (i < s.all.length) ∧ ∀ hb : i < s.all.length, s.fnd = s.all[i] := by
  subst hl
  have := (asks_get Ks ids ⟨#[]⟩ (ms.map (mvS Ks.length)) far i hi).2
  rw [List.length_map] at this
  unfold ixSteps at h
  rw [this] at h
  injection h with h
  subst h
  obtain ⟨S, hS⟩ : ∃ S, S = endB Ks ids [] (ms.map (mvS Ks.length)) := ⟨_, rfl⟩
  rw [← hS]
  by_cases hi2 : i < S.length
  · rw [List.getElem?_eq_getElem hi2]
    refine ⟨?_, fun hb => ?_⟩
    · show true = decide (i < (S.map (ix Ks)).length)
      rw [List.length_map, decide_eq_true hi2]
    · have hb' : i < (S.map (ix Ks)).length := hb
      exact (show ix Ks S[i] = (S.map (ix Ks))[i]'hb' by rw [List.getElem_map])
  · rw [List.getElem?_eq_none (by omega)]
    refine ⟨?_, fun hb => ?_⟩
    · show false = decide (i < (S.map (ix Ks)).length)
      rw [List.length_map, decide_eq_false hi2]
    · have hb' : i < (S.map (ix Ks)).length := hb
      rw [List.length_map] at hb'
      exact absurd hb' hi2
theorem ask_c (hl : Ks.length = n) {s : SN} (h : (runB Ks ids [] (ixSteps n ms far))[ms.length + 2 * n]? = some s) : s.ok = decide (0 ≤ far ∧ far < (s.all.length : Int)) := by
  subst hl
  have := asks_last Ks ids ⟨#[]⟩ (ms.map (mvS Ks.length)) far
  rw [List.length_map] at this
  unfold ixSteps at h
  rw [this] at h
  injection h with h
  subst h
  obtain ⟨S, hS⟩ : ∃ S, S = endB Ks ids [] (ms.map (mvS Ks.length)) := ⟨_, rfl⟩
  rw [← hS]
  by_cases h0 : 0 ≤ far
  · rw [if_pos h0]
    by_cases hi2 : far.toNat < S.length
    · rw [List.getElem?_eq_getElem hi2]
      show true = decide (0 ≤ far ∧ far < ((S.map (ix Ks)).length : Int))
      rw [List.length_map, decide_eq_true (show 0 ≤ far ∧ far < (S.length : Int) by omega)]
    · rw [List.getElem?_eq_none (by omega)]
      show false = decide (0 ≤ far ∧ far < ((S.map (ix Ks)).length : Int))
      rw [List.length_map, decide_eq_false (show ¬ (0 ≤ far ∧ far < (S.length : Int)) by omega)]
  · rw [if_neg h0]
    show false = decide (0 ≤ far ∧ far < ((S.map (ix Ks)).length : Int))
    rw [decide_eq_false (fun h => h0 h.1)]
theorem SNL.get {w : World} {A : Option Addr} {n j : Nat} {sns : List SN} {s : SN} (h : SNL w A n sns) (hs : sns[j]? = some s) : ∃ ad Al nl cl An nn nc, A = some ad ∧ w.cell? (ad.add (j * 6)) = some (.bool s.ok) ∧ w.cell? ⟨(ad.add (j * 6)).block, (ad.add (j * 6)).off + 1, none⟩ = some (.int .i64 s.idx) ∧
      w.cell? ⟨(ad.add (j * 6)).block, (ad.add (j * 6)).off + 2, none⟩ = some (.int .i64 s.fnd) ∧ w.cell? ⟨(ad.add (j * 6)).block, (ad.add (j * 6)).off + 3, none⟩ = some (.int .i64 (s.all.length : Nat)) ∧
      w.cell? ⟨(ad.add (j * 6)).block, (ad.add (j * 6)).off + 4, none⟩ = some (.slice Al nl cl) ∧ w.cell? ⟨(ad.add (j * 6)).block, (ad.add (j * 6)).off + 5, none⟩ = some (.slice An nn nc) ∧ IL w Al nl s.all := by
  obtain ⟨hj, rfl⟩ := List.getElem?_eq_some_iff.1 hs
  exact h.at_ hj
end
end Go.Proofs.YtlbnemnadegapaaDoor.Ky
