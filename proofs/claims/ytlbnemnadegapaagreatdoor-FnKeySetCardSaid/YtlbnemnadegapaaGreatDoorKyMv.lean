/- Moves of a set: their data in memory. -/
import Derived.Test.YtlbnemnadegapaaGreatDoorKyData
set_option linter.unusedVariables false
set_option linter.unusedSimpArgs false
namespace Go.Proofs.YtlbnemnadegapaaGreatDoor.Ky
open Go.RowKit Go.Proofs.YtlbnemnadegapaaGreatDoor.K Go.Proofs.YtlbnemnadegapaaGreatDoor.Nm
structure MV where
  kind : Int
  key : Int
  at_ : Int
  id : Int
def mc (m : MV) : List Value := [.int .u8 m.kind, .int .u8 m.key, .int .i8 m.at_, .int .u8 m.id]
theorem mc_len (m : MV) : (mc m).length = 4 := rfl
def OKm (m : MV) : Prop := (0 ≤ m.kind ∧ m.kind < 256) ∧ (0 ≤ m.key ∧ m.key < 256) ∧ (-128 ≤ m.at_ ∧ m.at_ < 128) ∧ (0 ≤ m.id ∧ m.id < 256)
/-- Moves in memory. -/
def MVL (w : World) (A : Option Addr) (n : Nat) (ms : List MV) : Prop := Reads w 4 A n (flat mc ms) ∧ ∀ m ∈ ms, OKm m
def nmT (k : Int) : ByteArray := if k = 0 then ⟨#[100]⟩ else if k = 1 then ⟨#[97]⟩ else if k = 2 then ⟨#[98]⟩ else if k = 3 then ⟨#[99]⟩ else ⟨#[101]⟩
theorem nmT_at (i : Nat) (h : i < 5) : (#[.string ⟨#[100]⟩, .string ⟨#[97]⟩, .string ⟨#[98]⟩, .string ⟨#[99]⟩, .string ⟨#[101]⟩] : Array Value)[i]? = some (.string (nmT (i : Nat))) := by
  match i, h with
  | 0, _ => rfl
  | 1, _ => rfl
  | 2, _ => rfl
  | 3, _ => rfl
  | 4, _ => rfl
theorem blk_at {W : World} {b : Nat} (hb : W.heap.size = b) (T : TypeId) (cs : Array Value) : Blk (W.alloc (.cells cs T)).drew b T cs := by subst hb; exact Blk.new W T cs
theorem blk_at2 {W : World} {b : Nat} (hb : W.heap.size = b) (T : TypeId) (cs : Array Value) (o : Obj) : Blk ((W.alloc (.cells cs T)).alloc o).drew b T cs := by subst hb; exact (Blk.new W T cs).alloc o
theorem nmT_size (k : Int) : (nmT k).size = 1 := by unfold nmT; split <;> (try split) <;> (try split) <;> (try split) <;> rfl
theorem nmT_get (i : Nat) (h : i < ([.string ⟨#[100]⟩, .string ⟨#[97]⟩, .string ⟨#[98]⟩, .string ⟨#[99]⟩, .string ⟨#[101]⟩] : List Value).length) : ([.string ⟨#[100]⟩, .string ⟨#[97]⟩, .string ⟨#[98]⟩, .string ⟨#[99]⟩, .string ⟨#[101]⟩] : List Value)[i] = .string (nmT (i : Nat)) := by
  match i, h with
  | 0, _ => rfl
  | 1, _ => rfl
  | 2, _ => rfl
  | 3, _ => rfl
  | 4, _ => rfl
def zStep : Value := .agg #[.int .i64 0, .int .i64 0, .int .i64 0, .string ByteArray.empty, .string ByteArray.empty]
theorem infoStep : (Tryz.prog.info? 41).map (fun i => (i.zero, i.size, i.bytes)) = some (some zStep, 5, 56) := by kernel_rfl
theorem sc_one (s : ST) : ∀ u ∈ sc s, u.oneCell' = true := by
  intro u hu
  simp only [sc, List.mem_cons, List.not_mem_nil, or_false] at hu
  rcases hu with rfl | rfl | rfl | rfl | rfl <;> rfl
section
variable {w w' : World} {A : Option Addr} {n : Nat} {ms : List MV}
theorem MVL.len (h : MVL w A n ms) : n = ms.length := by have := h.1.1; rw [flat_len mc_len] at this; omega
theorem MVL.below (h : MVL w A n ms) (hb : Below w.heap.size w w') : MVL w' A n ms := ⟨Reads.below h.1 hb (Nat.le_refl _), h.2⟩
theorem MVL.at_ {j : Nat} (h : MVL w A n ms) (hj : j < ms.length) :
    ∃ ad, A = some ad ∧ w.cell? (ad.add (j * 4)) = some (.int .u8 ms[j].kind) ∧ w.cell? ⟨(ad.add (j * 4)).block, (ad.add (j * 4)).off + 1, none⟩ = some (.int .u8 ms[j].key) ∧ w.cell? ⟨(ad.add (j * 4)).block, (ad.add (j * 4)).off + 2, none⟩ = some (.int .i8 ms[j].at_) ∧
      w.cell? ⟨(ad.add (j * 4)).block, (ad.add (j * 4)).off + 3, none⟩ = some (.int .u8 ms[j].id) := by
  have hn := h.len
  obtain ⟨ad, rfl, _, hc⟩ := h.1.2 (by omega)
  have g : ∀ i, i < 4 → (flat mc ms)[j * 4 + i]? = (mc ms[j])[i]? := fun i hi => flat_at mc_len ms j i hj hi
  exact ⟨ad, rfl, hc (j * 4) _ (by have := g 0 (by decide); simpa [mc] using this), cell_next (hc (j * 4 + 1) _ (by rw [g 1 (by decide)]; rfl)), cell_next (hc (j * 4 + 2) _ (by rw [g 2 (by decide)]; rfl)), cell_next (hc (j * 4 + 3) _ (by rw [g 3 (by decide)]; rfl))⟩
end
end Go.Proofs.YtlbnemnadegapaaGreatDoor.Ky
