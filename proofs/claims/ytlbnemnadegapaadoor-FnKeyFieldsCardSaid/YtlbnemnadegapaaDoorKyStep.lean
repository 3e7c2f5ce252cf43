/- Steps of a key set: their data in memory, what they give, as plain lists. -/
import Derived.Test.YtlbnemnadegapaaDoorKyRun3
set_option linter.unusedVariables false
set_option linter.unusedSimpArgs false
namespace Go.Proofs.YtlbnemnadegapaaDoor.Ky
open Go.RowKit Go.Proofs.YtlbnemnadegapaaDoor.K Go.Proofs.YtlbnemnadegapaaDoor.Nm
structure ST where
  kind : Int
  key : Int
  at_ : Int
  id : ByteArray
  text : ByteArray
def sc (s : ST) : List Value := [.int .i64 s.kind, .int .i64 s.key, .int .i64 s.at_, .string s.id, .string s.text]
theorem sc_len (s : ST) : (sc s).length = 5 := rfl
def STL (w : World) (A : Option Addr) (n : Nat) (ss : List ST) : Prop := Reads w 5 A n (flat sc ss)
section
variable {w w' : World} {A : Option Addr} {n : Nat} {ss : List ST}
theorem STL.len (h : STL w A n ss) : n = ss.length := by have := h.1; rw [flat_len sc_len] at this; omega
theorem STL.below {B : Nat} (h : STL w A n ss) (hb : Below B w w') (hB : w.heap.size ≤ B) : STL w' A n ss := Reads.below h hb hB
theorem STL.at_ {j : Nat} (h : STL w A n ss) (hj : j < ss.length) :
    ∃ ad, A = some ad ∧ w.cell? (ad.add (j * 5)) = some (.int .i64 ss[j].kind) ∧ w.cell? ⟨(ad.add (j * 5)).block, (ad.add (j * 5)).off + 1, none⟩ = some (.int .i64 ss[j].key) ∧ w.cell? ⟨(ad.add (j * 5)).block, (ad.add (j * 5)).off + 2, none⟩ = some (.int .i64 ss[j].at_) ∧
      w.cell? ⟨(ad.add (j * 5)).block, (ad.add (j * 5)).off + 3, none⟩ = some (.string ss[j].id) ∧ w.cell? ⟨(ad.add (j * 5)).block, (ad.add (j * 5)).off + 4, none⟩ = some (.string ss[j].text) := by
  have hn := h.len
  obtain ⟨ad, rfl, _, hc⟩ := h.2 (by omega)
  have g : ∀ i, i < 5 → (flat sc ss)[j * 5 + i]? = (sc ss[j])[i]? := fun i hi => flat_at sc_len ss j i hj hi
  exact ⟨ad, rfl, hc (j * 5) _ (by have := g 0 (by decide); simpa [sc] using this), cell_next (hc (j * 5 + 1) _ (by rw [g 1 (by decide)]; rfl)), cell_next (hc (j * 5 + 2) _ (by rw [g 2 (by decide)]; rfl)), cell_next (hc (j * 5 + 3) _ (by rw [g 3 (by decide)]; rfl)), cell_next (hc (j * 5 + 4) _ (by rw [g 4 (by decide)]; rfl))⟩
end
/-- What a step gives: whether it went well, an index, the key found, all keys behind it. -/
structure SN where
  ok : Bool
  idx : Int
  fnd : Int
  all : List Int
/-- The keys behind a step, and what it tells; S: blocks. -/
structure RS where
  S : List Nat
  ok : Bool
  idx : Int
  fnd : Int
def inKeys (Ks : List Nat) (k : Int) : Bool := decide (0 ≤ k) && decide (k < (Ks.length : Int))
def kAt (Ks : List Nat) (k : Int) : Nat := Ks.getD k.toNat 0
def fnd? (Ks S : List Nat) : Option Nat → RS
  | some x => ⟨S, true, -1, ix Ks x⟩
  | none => ⟨S, false, -1, -1⟩
def stB (Ks : List Nat) (ids : Nat → Option ByteArray) (S : List Nat) (s : ST) : RS :=
  if s.kind = 0 then (if inKeys Ks s.key then ⟨if kAt Ks s.key ∈ S then S else S ++ [kAt Ks s.key], decide (kAt Ks s.key ∉ S), -1, -1⟩ else ⟨S, true, -1, -1⟩)
  else if s.kind = 1 then (if inKeys Ks s.key then ⟨rm S (kAt Ks s.key), decide (kAt Ks s.key ∈ S), -1, -1⟩ else ⟨S, true, -1, -1⟩)
  else if s.kind = 2 then (if inKeys Ks s.key then ⟨S, true, ix S (kAt Ks s.key), -1⟩ else ⟨S, true, -1, -1⟩)
  else if s.kind = 3 then fnd? Ks S (if 0 ≤ s.at_ then S[s.at_.toNat]? else none)
  else if s.kind = 4 then fnd? Ks S (S.find? (hit ids s.id))
  else if s.kind = 5 then ⟨[], true, -1, -1⟩
  else ⟨S, true, -1, -1⟩
def snOf (Ks : List Nat) (r : RS) : SN := ⟨r.ok, r.idx, r.fnd, r.S.map (ix Ks)⟩
def runB (Ks : List Nat) (ids : Nat → Option ByteArray) : List Nat → List ST → List SN
  | _, [] => []
  | S, s :: r => snOf Ks (stB Ks ids S s) :: runB Ks ids (stB Ks ids S s).S r
def endB (Ks : List Nat) (ids : Nat → Option ByteArray) : List Nat → List ST → List Nat
  | S, [] => S
  | S, s :: r => endB Ks ids (stB Ks ids S s).S r
theorem runB_app (Ks : List Nat) (ids : Nat → Option ByteArray) : ∀ (S : List Nat) (a b : List ST), runB Ks ids S (a ++ b) = runB Ks ids S a ++ runB Ks ids (endB Ks ids S a) b
  | _, [], _ => rfl
  | S, s :: a, b => by
    rw [List.cons_append, runB, runB, List.cons_append, endB, runB_app Ks ids _ a b]
theorem endB_app (Ks : List Nat) (ids : Nat → Option ByteArray) : ∀ (S : List Nat) (a b : List ST), endB Ks ids S (a ++ b) = endB Ks ids (endB Ks ids S a) b
  | _, [], _ => rfl
  | S, s :: a, b => by rw [List.cons_append, endB, endB, endB_app Ks ids _ a b]
theorem runB_len (Ks : List Nat) (ids : Nat → Option ByteArray) : ∀ (S : List Nat) (a : List ST), (runB Ks ids S a).length = a.length
  | _, [] => rfl
  | S, s :: a => by rw [runB, List.length_cons, runB_len Ks ids _ a, List.length_cons]
/-- The keys of a set are keys that were made, each once. -/
def Sub (Ks S : List Nat) : Prop := S.Nodup ∧ ∀ x ∈ S, x ∈ Ks
theorem rm_sub {S : List Nat} {k x : Nat} (h : x ∈ rm S k) : x ∈ S := by
  unfold rm at h
  split at h
  · exact List.mem_of_mem_eraseIdx h
  · exact h
theorem rm_nodup {S : List Nat} {k : Nat} (h : S.Nodup) : (rm S k).Nodup := by
  unfold rm
  split
  · exact h.sublist (List.eraseIdx_sublist _ _)
  · exact h
theorem kAt_mem {Ks : List Nat} {k : Int} (h : inKeys Ks k = true) : kAt Ks k ∈ Ks := by
  unfold inKeys at h
  simp only [Bool.and_eq_true, decide_eq_true_eq] at h
  unfold kAt
  rw [List.getD_eq_getElem?_getD, List.getElem?_eq_getElem (by omega)]
  exact List.getElem_mem _
theorem fnd?_S (Ks S : List Nat) (o : Option Nat) : (fnd? Ks S o).S = S := by cases o <;> rfl
theorem stB_sub {Ks S : List Nat} {ids : Nat → Option ByteArray} {s : ST} (h : Sub Ks S) : Sub Ks (stB Ks ids S s).S := by
  unfold stB
  split
  · split
    · rename_i hk
      by_cases hm : kAt Ks s.key ∈ S
      · simp only [if_pos hm]; exact h
      · simp only [if_neg hm]
        refine ⟨?_, fun x hx => ?_⟩
        · rw [List.nodup_append]
          refine ⟨h.1, by simp, fun a ha b hb e => ?_⟩
          rw [List.mem_singleton.1 hb] at e
          exact hm (e ▸ ha)
        · rcases List.mem_append.1 hx with hx | hx
          · exact h.2 x hx
          · rw [List.mem_singleton.1 hx]; exact kAt_mem hk
    · exact h
  split
  · split
    · exact ⟨rm_nodup h.1, fun x hx => h.2 x (rm_sub hx)⟩
    · exact h
  split
  · split <;> exact h
  split
  · rw [fnd?_S]; exact h
  split
  · rw [fnd?_S]; exact h
  split
  · exact ⟨List.nodup_nil, fun x hx => by simp at hx⟩
  · exact h
theorem endB_sub {Ks : List Nat} {ids : Nat → Option ByteArray} : ∀ {S : List Nat} {a : List ST}, Sub Ks S → Sub Ks (endB Ks ids S a)
  | _, [], h => h
  | S, s :: a, h => by rw [endB]; exact endB_sub (stB_sub h)
theorem Sub.len {Ks S : List Nat} (h : Sub Ks S) : S.length ≤ Ks.length := List.Nodup.length_le_of_subset h.1 (fun x hx => h.2 x hx)
/-- What a step gives, in memory. -/
def SeenAt (w : World) (B : Nat) (cs : List Value) (s : SN) : Prop := ∃ vA A n c, cs = [.bool s.ok, .int .i64 s.idx, .int .i64 s.fnd, .int .i64 (s.all.length : Nat), vA, .slice A n c] ∧ KL w B 3 vA (s.all.map (Value.int .i64))
def Outs (w : World) (B : Nat) (v : Value) (sns : List SN) : Prop := ∃ rs : List (List Value × SN), w.ownsRow B 61 6 v rs.length (flat (·.1) rs) ∧ sns = rs.map (·.2) ∧ ∀ r ∈ rs, SeenAt w B r.1 r.2
section
variable {w w' : World} {B : Nat}
theorem KL.keepB {E : TypeId} {v : Value} {xs : List Value} (h : KL w B E v xs) (hk : ∀ j cs, Blk w j E cs → Blk w' j E cs) : KL w' B E v xs := by
  obtain ⟨A, c, h1, h2, h3, h4⟩ := h
  refine ⟨A, c, h1, h2, h3, ?_⟩
  rcases h4 with h4 | ⟨g, off, cs, a1, a2, a3, a4⟩
  · exact .inl h4
  · exact .inr ⟨g, off, cs, a1, a2, hk _ _ a3, a4⟩
theorem SeenAt.keep {cs : List Value} {s : SN} (h : SeenAt w B cs s) (hk : ∀ j cs, Blk w j 3 cs → Blk w' j 3 cs) : SeenAt w' B cs s := by
  obtain ⟨vA, A, n, c, h1, h2⟩ := h
  exact ⟨vA, A, n, c, h1, h2.keepB hk⟩
theorem own_keep {E : TypeId} {v : Value} {size n : Nat} {xs : List Value} (h : w.ownsRow B E size v n xs) (hk : ∀ j cs, Blk w j E cs → Blk w' j E cs) : w'.ownsRow B E size v n xs := by
  refine ⟨h.1, ?_⟩
  rcases h.2 with h2 | ⟨g, cap, cur, a1, a2, a3, a4⟩
  · exact .inl h2
  · exact .inr ⟨g, cap, cur, a1, a2, hk g cur a3, a4⟩
theorem Outs.keep {v : Value} {sns : List SN} (h : Outs w B v sns) (hk : ∀ j T cs, Blk w j T cs → T = 3 ∨ T = 61 → Blk w' j T cs) : Outs w' B v sns := by
  obtain ⟨rs, h1, h2, h3⟩ := h
  exact ⟨rs, own_keep h1 (fun j cs hb => hk j _ cs hb (.inr rfl)), h2, fun r hr => (h3 r hr).keep fun j cs hb => hk j _ cs hb (.inl rfl)⟩
end
end Go.Proofs.YtlbnemnadegapaaDoor.Ky
