/- Walks of slices.Grow and AppendEncode on a row of the call's own; the conditions are on sizes alone. -/
import Derived.Test.YtimicibalhaljaaDoorB64Write
import Derived.Lib.AppendZerosOnto
import Derived.Lib.Walk
set_option linter.unusedVariables false
set_option linter.unusedSimpArgs false
namespace Go.Proofs.YtimicibalhaljaaDoor.B64
open Go.RowKit Go.Proofs.YtimicibalhaljaaDoor.K Go.Proofs.YtimicibalhaljaaDoor.Own
/-- A row with room: len bytes are known, and room for n more. -/
structure Roomy (w : World) (base g len n c : Nat) (l : List UInt8) (cur : List Value) : Prop where
  blk : Blk w g 5 cur.toArray
  len_ : cur.length = c
  take_ : cur.take len = bys l
  l_ : l.length = len
  room : len + n ≤ c
  max_ : c ≤ maxLen
  base_ : base ≤ g
def GrowPost (w : World) (base : Nat) (A : Option Addr) (len n : Nat) (l : List UInt8) (e : Ending) (w' : World) : Prop :=
  ∃ (g c' : Nat) (cur : List Value), e = .returned (.slice (some ⟨g, 0, none⟩) len c') ∧ Roomy w' base g len n c' l cur ∧ Below w.heap.size w w' ∧ (A = some ⟨g, 0, none⟩ ∨ w.heap.size ≤ g)
set_option maxRecDepth 100000 in
theorem Encode0_calls (w : World) (g n c : Nat) (p A : Option Addr) (cs : Array Value) (hb : Blk w g 60 cs) :
    Calls Tryd.prog 56 #[.pointer (some ⟨g, 0, none⟩), .slice p 0 n, .slice A 0 c] w fun e w' => e = .returned (.tuple #[]) ∧ w = w' := by
  go_enter Tryd.func56, Tryd.ntmps56
  go_wp2
  exact bodyPost_ret (v := .tuple #[]) (by kernel_rfl) rfl ⟨rfl, rfl⟩
theorem OwnB.mk' {base : Nat} {w : World} {A : Option Addr} {n c : Nat} {l : List UInt8} (hn : n = l.length) (hc : n ≤ c) (h : w.ownsRow base 5 1 (.slice A n c) n (bys l)) : OwnB base w (.slice A n c) l := by
  subst hn
  exact ⟨A, c, rfl, hc, h⟩
def AppPost (w : World) (base : Nat) (A : Option Addr) (l : List UInt8) (e : Ending) (w' : World) : Prop :=
  ∃ (A' : Option Addr) (c' : Nat), e = .returned (.slice A' l.length c') ∧ OwnB base w' (.slice A' l.length c') l ∧ w.grownBy w' (A.map (·.block)) ∧ (∀ k, A'.map (·.block) = some k → A.map (·.block) = some k ∨ w.heap.size ≤ k)
theorem blk_ne {w : World} {g g' : Nat} {t t' : TypeId} {cs cs' : Array Value} (h : Blk w g t cs) (h' : Blk w g' t' cs') (hne : t ≠ t') : g ≠ g' := by
  intro e
  subst e
  unfold Blk at h h'
  rw [h] at h'
  injection h' with h'
  injection h' with _ h'
  exact hne h'
end Go.Proofs.YtimicibalhaljaaDoor.B64
