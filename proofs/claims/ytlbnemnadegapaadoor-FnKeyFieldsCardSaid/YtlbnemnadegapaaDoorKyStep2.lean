/- Keys and their IDs; frames of a step. -/
import Derived.Test.YtlbnemnadegapaaDoorKyStep
set_option linter.unusedVariables false
set_option linter.unusedSimpArgs false
namespace Go.Proofs.YtlbnemnadegapaaDoor.Ky
open Go.RowKit Go.Proofs.YtlbnemnadegapaaDoor.K Go.Proofs.YtlbnemnadegapaaDoor.Nm
def idB (Ks : List Nat) (ds : List KD) (x : Nat) : Option ByteArray := match ds[(ix Ks x).toNat]? with | some d => idOf d | none => none
theorem ix_of {Ks : List Nat} (hn : Ks.Nodup) (i : Nat) (h : i < Ks.length) : ix Ks Ks[i] = i :=
  ix_at h rfl fun k hk hki e => by
    have := (List.getElem_inj hn).1 e
    omega
theorem Made.id {w : World} {p : Nat} {ds : List KD} {Ks : List Nat} (h : Made w p ds Ks) : ∀ x ∈ Ks, KeyId w x (idB Ks ds x) := by
  intro x hx
  obtain ⟨i, hi, rfl⟩ := List.getElem_of_mem hx
  obtain ⟨d, h1, h2⟩ := h.2.2.2 i hi
  unfold idB
  rw [ix_of h.1 i hi, Int.toNat_natCast, h1]
  exact h2
theorem Made.keysIn {w : World} {p : Nat} {ds : List KD} {Ks S : List Nat} (h : Made w p ds Ks) (hs : ∀ x ∈ S, x ∈ Ks) : KeysIn w S := fun x hx => by
  obtain ⟨cs, q, h1, _⟩ := h.id x (hs x hx)
  exact ⟨cs, h1⟩
/-- The variable that tells what a step gives. -/
abbrev xC (r : RS) : Array Value := #[.bool r.ok, .int .i64 r.idx, .int .i64 r.fnd, .int .i64 0, .slice none 0 0, .slice none 0 0]
/-- .. and one block besides. -/
structure Fx (B X : Nat) (w w' : World) : Prop where
  low : Below B w w'
  keep : ∀ j T cs, Blk w j T cs → ¬ badSK T → j ≠ X → Blk w' j T cs
theorem Fw.x {B X : Nat} {w w' : World} (h : Fw B w w') : Fx B X w w' := ⟨h.low, fun j T cs hb hT _ => h.keep j T cs hb hT⟩
theorem Fw.store {B X : Nat} {w w' : World} (h : Fw B w w') (hX : B ≤ X) (i : Nat) (u : Value) : Fx B X w (w'.setCell ⟨X, i, none⟩ u) :=
  ⟨h.low.setCell (by show B ≤ X; exact hX) _, fun j T cs hb hT hne => (h.keep j T cs hb hT).far (p := ⟨X, i, none⟩) (by show j ≠ X; exact hne) _⟩
theorem did_true {Q : ByteArray → Prop} {B g : Nat} {S' : List Nat} {w w' : World} {e : Ending} (h : Did Q B g true S' w e w') : e = .returned .nilIface ∧ SetAt Q B w' g S' ∧ Fw B w w' := by
  obtain ⟨v, h1, h2, h3, h4⟩ := h
  rcases h2 with ⟨rfl, _⟩ | ⟨_, h2⟩
  · exact ⟨h1, h3, h4⟩
  · cases h2
theorem Fx.store {B X : Nat} {w w' : World} (h : Fx B X w w') (hX : B ≤ X) (i : Nat) (u : Value) : Fx B X w (w'.setCell ⟨X, i, none⟩ u) :=
  ⟨h.low.setCell (by show B ≤ X; exact hX) _, fun j T cs hb hT hne => (h.keep j T cs hb hT hne).far (p := ⟨X, i, none⟩) (by show j ≠ X; exact hne) _⟩
theorem place_x {w : World} {b1 p X : Nat} {Ks : List Nat} {ids : Nat → Option ByteArray} {cs : Array Value} (hKs : KeysAt w b1 p Ks) (hids : ∀ x ∈ Ks, KeyId w x (ids x)) (hx : Blk w X 61 cs) (i : Nat) (u : Value) :
    KeysAt (w.setCell ⟨X, i, none⟩ u) b1 p Ks ∧ KeysIn (w.setCell ⟨X, i, none⟩ u) Ks := by
  have hf : Fr (· = 61) w (w.setCell ⟨X, i, none⟩ u) := Fr.setCell (bad := (· = 61)) hx rfl u
  obtain ⟨v, h1, h2⟩ := hKs
  refine ⟨⟨v, hf.blk h1 (by decide), h2.fr hf (by decide)⟩, fun x hx' => ?_⟩
  obtain ⟨cs', q, h3, _⟩ := hids x hx'
  exact ⟨cs', hf.blk h3 (by decide)⟩
theorem did_false {Q : ByteArray → Prop} {B g : Nat} {S' : List Nat} {w w' : World} {e : Ending} (h : Did Q B g false S' w e w') : ∃ T u, e = .returned (.iface T u) ∧ SetAt Q B w' g S' ∧ Fw B w w' := by
  obtain ⟨v, h1, h2, h3, h4⟩ := h
  rcases h2 with ⟨_, h2⟩ | ⟨⟨T, u, rfl⟩, _⟩
  · cases h2
  · exact ⟨T, u, h1, h3, h4⟩
theorem AddKey_new {Q : ByteArray → Prop} {base g : Nat} {w : World} {S : List Nat} (h : SetAt Q base w g S) (k : Nat) (hk : KeysIn w (k :: S)) (hn : S.length < 500) (hbase : base ≤ w.heap.size) (hm : k ∉ S) :
    Calls Tryd.prog 122 #[.pointer (some ⟨g, 0, none⟩), keyV k] w (Did Q base g true (S ++ [k]) w) := by
  have := AddKey_calls h k hk hn hbase
  rwa [decide_eq_true hm, if_neg hm] at this
theorem AddKey_old {Q : ByteArray → Prop} {base g : Nat} {w : World} {S : List Nat} (h : SetAt Q base w g S) (k : Nat) (hk : KeysIn w (k :: S)) (hn : S.length < 500) (hbase : base ≤ w.heap.size) (hm : k ∈ S) :
    Calls Tryd.prog 122 #[.pointer (some ⟨g, 0, none⟩), keyV k] w (Did Q base g false S w) := by
  have := AddKey_calls h k hk hn hbase
  rwa [decide_eq_false (by simpa using hm), if_pos hm] at this
def blockAt (n : Nat) : Code → Option Code
  | .block m c => if m == n then some (.block m c) else blockAt n c
  | .loop c => blockAt n c
  | .scope c => blockAt n c
  | .seq a b => match blockAt n a with
    | some c => some c
    | none => blockAt n b
  | .cond _ a b => match blockAt n a with
    | some c => some c
    | none => blockAt n b
  | _ => none
noncomputable def swC : Code := (Tryd.f24.body.bind (blockAt 4)).getD .skip
end Go.Proofs.YtlbnemnadegapaaDoor.Ky
