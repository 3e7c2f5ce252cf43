/- Laws of plain lists: what steps of a set give. -/
import Derived.Test.YtlbnemnadegapaaGreatDoorKyStep2
set_option linter.unusedVariables false
set_option linter.unusedSimpArgs false
namespace Go.Proofs.YtlbnemnadegapaaGreatDoor.Ky
open Go.RowKit Go.Proofs.YtlbnemnadegapaaGreatDoor.K Go.Proofs.YtlbnemnadegapaaGreatDoor.Nm
/-- The first place of an int. -/
def ixI (l : List Int) (v : Int) : Int := match l.findIdx? (· == v) with | some i => i | none => -1
theorem ixI_ix {Ks S : List Nat} (hn : Ks.Nodup) (hS : ∀ x ∈ S, x ∈ Ks) (i : Nat) (hi : i < Ks.length) : ixI (S.map (ix Ks)) (i : Nat) = ix S Ks[i] := by
  unfold ixI
  rw [show ix S Ks[i] = (match S.findIdx? (· == Ks[i]) with | some i => (i : Int) | none => -1) from rfl, List.findIdx?_map]
  have : ∀ (l : List Nat), (∀ x ∈ l, x ∈ Ks) → l.findIdx? ((· == ((i : Nat) : Int)) ∘ ix Ks) = l.findIdx? (· == Ks[i]) := by
    intro l
    induction l with
    | nil => intro _; rfl
    | cons x r ih =>
      intro h
      obtain ⟨j, hj, rfl⟩ := List.getElem_of_mem (h x (by simp))
      rw [List.findIdx?_cons, List.findIdx?_cons, ih (fun y hy => h y (by simp [hy]))]
      have : (((· == ((i : Nat) : Int)) ∘ ix Ks) Ks[j]) = (Ks[j] == Ks[i]) := by
        simp only [Function.comp]
        rw [ix_of hn j hj, Bool.eq_iff_iff]
        simp only [beq_iff_eq]
        constructor
        · intro e; have : j = i := by omega
          subst this; rfl
        · intro e; have := (List.getElem_inj hn).1 e; omega
      rw [this]
  rw [this S hS]
theorem runB_get (Ks : List Nat) (ids : Nat → Option ByteArray) (S : List Nat) (a b : List ST) (s : ST) : (runB Ks ids S (a ++ s :: b))[a.length]? = some (snOf Ks (stB Ks ids (endB Ks ids S a) s)) := by
  rw [runB_app, List.getElem?_append_right (by rw [runB_len]; exact Nat.le_refl _), runB_len, Nat.sub_self, runB]
  rfl
theorem st2 (Ks : List Nat) (ids : Nat → Option ByteArray) (S : List Nat) (i : Nat) (a b : ByteArray) (hi : i < Ks.length) (z : Int) : stB Ks ids S ⟨2, i, z, a, b⟩ = ⟨S, true, ix S Ks[i], -1⟩ := by
  unfold stB inKeys kAt
  simp [hi]
theorem st3 (Ks : List Nat) (ids : Nat → Option ByteArray) (S : List Nat) (k i : Int) (a b : ByteArray) : stB Ks ids S ⟨3, k, i, a, b⟩ = fnd? Ks S (if 0 ≤ i then S[i.toNat]? else none) := by
  unfold stB
  simp
/-- Steps that ask at each index. -/
def asks (e : ByteArray) (n : Nat) : List ST := (List.range n).flatMap fun i => [⟨2, (i : Nat), 0, e, e⟩, ⟨3, 0, (i : Nat), e, e⟩]
theorem asks_succ (e : ByteArray) (n : Nat) : asks e (n + 1) = asks e n ++ [⟨2, n, 0, e, e⟩, ⟨3, 0, n, e, e⟩] := by
  unfold asks
  rw [List.range_succ, List.flatMap_append]
  simp
theorem asks_len (e : ByteArray) : ∀ n, (asks e n).length = 2 * n
  | 0 => rfl
  | n + 1 => by rw [asks_succ, List.length_append, asks_len e n]; simp; omega
theorem asks_end (Ks : List Nat) (ids : Nat → Option ByteArray) (e : ByteArray) (S : List Nat) : ∀ n, n ≤ Ks.length → endB Ks ids S (asks e n) = S
  | 0, _ => rfl
  | n + 1, h => by
    rw [asks_succ, endB_app, asks_end Ks ids e S n (by omega), endB, st2 _ _ _ _ _ _ (by omega), endB, st3, endB, fnd?_S]
theorem asks_split (e : ByteArray) (i : Nat) : ∀ n, i < n → ∃ r, asks e n = asks e i ++ ([⟨2, i, 0, e, e⟩, ⟨3, 0, i, e, e⟩] ++ r)
  | 0, h => absurd h (by omega)
  | n + 1, h => by
    by_cases hi : i = n
    · subst hi; exact ⟨[], by rw [asks_succ]; simp⟩
    · obtain ⟨r, hr⟩ := asks_split e i n (by omega)
      exact ⟨r ++ [⟨2, n, 0, e, e⟩, ⟨3, 0, n, e, e⟩], by rw [asks_succ, hr]; simp⟩
/-- What the questions give. -/
theorem asks_get (Ks : List Nat) (ids : Nat → Option ByteArray) (e : ByteArray) (l : List ST) (f : Int) (i : Nat) (hi : i < Ks.length) :
    (runB Ks ids [] (l ++ asks e Ks.length ++ [⟨3, 0, f, e, e⟩]))[l.length + 2 * i]? = some (snOf Ks ⟨endB Ks ids [] l, true, ix (endB Ks ids [] l) Ks[i], -1⟩) ∧
    (runB Ks ids [] (l ++ asks e Ks.length ++ [⟨3, 0, f, e, e⟩]))[l.length + 2 * i + 1]? = some (snOf Ks (fnd? Ks (endB Ks ids [] l) (endB Ks ids [] l)[i]?)) := by
  obtain ⟨r, hr⟩ := asks_split e i Ks.length hi
  rw [hr]
  constructor
  · have := runB_get Ks ids [] (l ++ asks e i) (⟨3, 0, i, e, e⟩ :: r ++ [⟨3, 0, f, e, e⟩]) ⟨2, i, 0, e, e⟩
    rw [List.length_append, asks_len, endB_app, asks_end _ _ _ _ _ (by omega), st2 _ _ _ _ _ _ hi] at this
    rw [← this]; congr 2; simp
  · have := runB_get Ks ids [] (l ++ asks e i ++ [⟨2, i, 0, e, e⟩]) (r ++ [⟨3, 0, f, e, e⟩]) ⟨3, 0, i, e, e⟩
    rw [List.length_append, List.length_append, asks_len, endB_app, endB_app, asks_end _ _ _ _ _ (by omega), endB, endB, st2 _ _ _ _ _ _ hi, st3, if_pos (by omega)] at this
    simp only [List.length_cons, List.length_nil, Int.toNat_natCast] at this
    rw [show l.length + 2 * i + 1 = l.length + 2 * i + (0 + 1) by omega, ← this]; congr 2; simp
theorem asks_last (Ks : List Nat) (ids : Nat → Option ByteArray) (e : ByteArray) (l : List ST) (f : Int) :
    (runB Ks ids [] (l ++ asks e Ks.length ++ [⟨3, 0, f, e, e⟩]))[l.length + 2 * Ks.length]? = some (snOf Ks (fnd? Ks (endB Ks ids [] l) (if 0 ≤ f then (endB Ks ids [] l)[f.toNat]? else none))) := by
  have := runB_get Ks ids [] (l ++ asks e Ks.length) [] ⟨3, 0, f, e, e⟩
  rwa [List.length_append, asks_len, endB_app, asks_end _ _ _ _ _ (by omega), st3] at this
theorem stB_pv (Ks : List Nat) (ids : Nat → Option ByteArray) (S : List Nat) (s : ST) (h : 7 ≤ s.kind) : (stB Ks ids S s).S = S := by
  unfold stB
  rw [if_neg (by omega), if_neg (by omega), if_neg (by omega), if_neg (by omega), if_neg (by omega), if_neg (by omega)]
/-- Private fields do not touch the keys. -/
theorem runB_own (Ks : List Nat) (ids : Nat → Option ByteArray) : ∀ (l : List ST) (S : List Nat) (i : Nat) (h : i < l.length), l[i].kind < 7 → (runB Ks ids S (l.filter (·.kind < 7)))[((l.take i).filter (·.kind < 7)).length]? = (runB Ks ids S l)[i]?
  | s :: r, S, 0, _, hk => by
    have hk' : s.kind < 7 := hk
    rw [List.filter_cons_of_pos (by simpa using hk'), runB, runB]
    rfl
  | s :: r, S, i + 1, h, hk => by
    by_cases h7 : s.kind < 7
    · rw [List.take_succ_cons, List.filter_cons_of_pos (by simpa using h7), List.filter_cons_of_pos (by simpa using h7), runB, runB, List.length_cons, List.getElem?_cons_succ, List.getElem?_cons_succ]
      exact runB_own Ks ids r _ i (by simpa using h) (by simpa using hk)
    · rw [List.take_succ_cons, List.filter_cons_of_neg (by simpa using h7), List.filter_cons_of_neg (by simpa using h7), runB, List.getElem?_cons_succ, stB_pv _ _ _ _ (by omega)]
      exact runB_own Ks ids r _ i (by simpa using h) (by simpa using hk)
theorem ixI_neg {l : List Int} {v : Int} (h : v ∉ l) : ixI l v = -1 := by
  unfold ixI
  rw [List.findIdx?_eq_none_iff.2 (fun x hx => by simp; rintro rfl; exact h hx)]
theorem ix_mem {Ks : List Nat} (hn : Ks.Nodup) {S : List Nat} (hS : ∀ x ∈ S, x ∈ Ks) (i : Nat) (hi : i < Ks.length) : ((i : Nat) : Int) ∈ S.map (ix Ks) ↔ Ks[i] ∈ S := by
  rw [List.mem_map]
  constructor
  · rintro ⟨x, hx, e⟩
    obtain ⟨j, hj, rfl⟩ := List.getElem_of_mem (hS x hx)
    rw [ix_of hn j hj] at e
    have : j = i := by omega
    subst this; exact hx
  · intro h; exact ⟨_, h, ix_of hn i hi⟩
/-- What the reference says of a step, over places of keys; H: whose ID a text is. -/
structure SP where
  Z : List Int
  ok : Bool
  idx : Int
  fnd : Int
def fndZ (Z : List Int) : Option Int → SP
  | some z => ⟨Z, true, -1, z⟩
  | none => ⟨Z, false, -1, -1⟩
def spB (H : ByteArray → Int → Bool) (Z : List Int) (s : ST) : SP :=
  if s.kind = 0 then ⟨if s.key ∈ Z then Z else Z ++ [s.key], decide (s.key ∉ Z), -1, -1⟩
  else if s.kind = 1 then ⟨match Z.findIdx? (· == s.key) with | some j => Z.eraseIdx j | none => Z, decide (s.key ∈ Z), -1, -1⟩
  else if s.kind = 2 then ⟨Z, true, ixI Z s.key, -1⟩
  else if s.kind = 3 then fndZ Z (if 0 ≤ s.at_ then Z[s.at_.toNat]? else none)
  else if s.kind = 4 then fndZ Z (Z.find? (H s.id))
  else if s.kind = 5 then ⟨[], true, -1, -1⟩
  else ⟨Z, true, -1, -1⟩
def spN (r : SP) : SN := ⟨r.ok, r.idx, r.fnd, r.Z⟩
def runS (H : ByteArray → Int → Bool) : List Int → List ST → List SN
  | _, [] => []
  | Z, s :: r => spN (spB H Z s) :: runS H (spB H Z s).Z r
theorem map_erase {α β : Type} (f : α → β) : ∀ (l : List α) (j : Nat), (l.eraseIdx j).map f = (l.map f).eraseIdx j
  | [], _ => rfl
  | _ :: _, 0 => rfl
  | x :: l, j + 1 => by simp [map_erase f l j]
theorem first_map {Ks S : List Nat} (hn : Ks.Nodup) (hS : ∀ x ∈ S, x ∈ Ks) (i : Nat) (hi : i < Ks.length) : (S.map (ix Ks)).findIdx? (· == ((i : Nat) : Int)) = S.findIdx? (· == Ks[i]) := by
  rw [List.findIdx?_map]
  have : ∀ (l : List Nat), (∀ x ∈ l, x ∈ Ks) → l.findIdx? ((· == ((i : Nat) : Int)) ∘ ix Ks) = l.findIdx? (· == Ks[i]) := by
    intro l
    induction l with
    | nil => intro _; rfl
    | cons x r ih =>
      intro h
      obtain ⟨j, hj, rfl⟩ := List.getElem_of_mem (h x (by simp))
      rw [List.findIdx?_cons, List.findIdx?_cons, ih (fun y hy => h y (by simp [hy]))]
      have : (((· == ((i : Nat) : Int)) ∘ ix Ks) Ks[j]) = (Ks[j] == Ks[i]) := by
        simp only [Function.comp]
        rw [ix_of hn j hj, Bool.eq_iff_iff]
        simp only [beq_iff_eq]
        constructor
        · intro e; have : j = i := by omega
          subst this; rfl
        · intro e; have := (List.getElem_inj hn).1 e; omega
      rw [this]
  exact this S hS
theorem step_eq {Ks S : List Nat} {ids : Nat → Option ByteArray} {H : ByteArray → Int → Bool} (hn : Ks.Nodup) (hS : ∀ x ∈ S, x ∈ Ks) (hH : ∀ t, ∀ x ∈ Ks, hit ids t x = H t (ix Ks x)) (s : ST) (i : Nat) (hk : s.key = (i : Nat)) (hi : i < Ks.length) :
    snOf Ks (stB Ks ids S s) = spN (spB H (S.map (ix Ks)) s) := by
  have h1 : inKeys Ks s.key = true := by unfold inKeys; simp [hk, hi]
  have h2 : kAt Ks s.key = Ks[i] := by unfold kAt; simp [hk, hi]
  have h3 := ix_mem hn hS i hi
  have h4 : decide (s.key ∈ S.map (ix Ks)) = decide (Ks[i] ∈ S) := by rw [hk]; exact decide_eq_decide.2 h3
  unfold stB spB
  simp only [h1, h2, if_true]
  by_cases k0 : s.kind = 0
  · rw [if_pos k0, if_pos k0]
    unfold snOf spN
    by_cases hm : Ks[i] ∈ S
    · have hz : s.key ∈ S.map (ix Ks) := by rw [hk]; exact h3.2 hm
      simp [if_pos hm, if_pos hz, hm, hz]
    · have hz : s.key ∉ S.map (ix Ks) := by rw [hk]; exact fun e => hm (h3.1 e)
      simp only [if_neg hm, if_neg hz, List.map_append, List.map_cons, List.map_nil, ix_of hn i hi, ← hk, decide_eq_true hm, decide_eq_true hz]
  rw [if_neg k0, if_neg k0]
  by_cases k1 : s.kind = 1
  · rw [if_pos k1, if_pos k1]
    unfold snOf spN rm
    simp only [h4]
    rw [hk, first_map hn hS i hi]
    cases S.findIdx? (· == Ks[i]) with
    | none => rfl
    | some j => simp only [map_erase]
  rw [if_neg k1, if_neg k1]
  by_cases k2 : s.kind = 2
  · rw [if_pos k2, if_pos k2]
    unfold snOf spN
    simp only [hk, ixI_ix hn hS i hi]
  rw [if_neg k2, if_neg k2]
  have hf : ∀ o : Option Nat, snOf Ks (fnd? Ks S o) = spN (fndZ (S.map (ix Ks)) (o.map (ix Ks))) := by intro o; cases o <;> rfl
  by_cases k3 : s.kind = 3
  · rw [if_pos k3, if_pos k3, hf]
    congr 2
    split
    · rw [List.getElem?_map]
    · rfl
  rw [if_neg k3, if_neg k3]
  by_cases k4 : s.kind = 4
  · rw [if_pos k4, if_pos k4, hf]
    congr 2
    rw [List.find?_map]
    congr 1
    have : ∀ l : List Nat, (∀ x ∈ l, x ∈ Ks) → l.find? (hit ids s.id) = l.find? (H s.id ∘ ix Ks) := by
      intro l
      induction l with
      | nil => intro _; rfl
      | cons x r ih =>
        intro h
        rw [List.find?_cons, List.find?_cons, ih (fun y hy => h y (by simp [hy])), hH _ x (h x (by simp))]
        rfl
    exact this S hS
  rw [if_neg k4, if_neg k4]
  split <;> rfl
theorem run_eq {Ks : List Nat} {ids : Nat → Option ByteArray} {H : ByteArray → Int → Bool} (hn : Ks.Nodup) (hH : ∀ t, ∀ x ∈ Ks, hit ids t x = H t (ix Ks x)) : ∀ (ss : List ST) (S : List Nat), Sub Ks S → (∀ s ∈ ss, ∃ i : Nat, s.key = (i : Nat) ∧ i < Ks.length) → runB Ks ids S ss = runS H (S.map (ix Ks)) ss
  | [], _, _, _ => rfl
  | s :: r, S, hS, h => by
    obtain ⟨i, hk, hi⟩ := h s (by simp)
    have h1 := step_eq hn hS.2 hH s i hk hi
    rw [runB, runS, h1, run_eq hn hH r _ (stB_sub hS) (fun s hs => h s (by simp [hs]))]
    have h2 : ((stB Ks ids S s).S).map (ix Ks) = (spB H (S.map (ix Ks)) s).Z := by
      have := congrArg SN.all h1
      exact this
    rw [h2]
end Go.Proofs.YtlbnemnadegapaaGreatDoor.Ky
