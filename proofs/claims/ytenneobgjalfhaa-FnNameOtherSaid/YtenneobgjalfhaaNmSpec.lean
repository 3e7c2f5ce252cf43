/- Walks of laws.namesLive and of spec.NameStandard at each kind; no condition. Printed by gen_nsp.py. -/
import Derived.Test.YtenneobgjalfhaaNmFound
set_option linter.unusedVariables false
set_option linter.unusedSimpArgs false
namespace Go.Proofs.Ytenneobgjalfhaa.Nm
open Go.RowKit Go.Proofs.Ytenneobgjalfhaa.K
def nHS : ByteArray := ⟨#[72, 83, 50, 53, 54]⟩
theorem hs_mem : ∀ p ∈ tabSignature, p.1 = nHS → p.2.2 = true := by decide
theorem hs_in : ¬ ∀ p ∈ tabSignature, p.1 ≠ nHS := by decide
set_option maxRecDepth 100000 in
set_option maxHeartbeats 1000000 in
theorem namesLive_calls (w : World) : Calls Try.prog 6 #[] w fun e w' => e = .returned (.bool true) ∧ Below w.heap.size w w' := by
  have HF := Lib.hid (NameFound_0 w nHS)
  simp only [nHS] at HF
  go_enter Try.func6, Try.ntmps6
  go_wp2_with fail
  refine HF.out.mono ?_
  rintro e w1 ⟨hB, t, d, y, ok, ht, rfl⟩
  have HB := Lib.hid hB
  rcases ht with ⟨rfl, rfl, hm⟩ | ⟨_, _, _, _, hn⟩
  · obtain rfl : y = true := hs_mem _ hm rfl
    clear hm hB HF
    go_wp2
    go_ret
    exact ⟨rfl, HB.out⟩
  · exact absurd hn hs_in
def stds : Nat → List ByteArray
  | 0 => [⟨#[72, 83, 50, 53, 54]⟩, ⟨#[72, 83, 51, 56, 52]⟩, ⟨#[72, 83, 53, 49, 50]⟩, ⟨#[82, 83, 50, 53, 54]⟩, ⟨#[82, 83, 51, 56, 52]⟩, ⟨#[82, 83, 53, 49, 50]⟩, ⟨#[69, 83, 50, 53, 54]⟩, ⟨#[69, 83, 51, 56, 52]⟩, ⟨#[69, 83, 53, 49, 50]⟩, ⟨#[80, 83, 50, 53, 54]⟩, ⟨#[80, 83, 51, 56, 52]⟩, ⟨#[80, 83, 53, 49, 50]⟩, ⟨#[69, 100, 68, 83, 65]⟩, ⟨#[110, 111, 110, 101]⟩]
  | 1 => [⟨#[82, 83, 65, 49, 95, 53]⟩, ⟨#[82, 83, 65, 45, 79, 65, 69, 80]⟩, ⟨#[82, 83, 65, 45, 79, 65, 69, 80, 45, 50, 53, 54]⟩, ⟨#[65, 49, 50, 56, 75, 87]⟩, ⟨#[65, 49, 57, 50, 75, 87]⟩, ⟨#[65, 50, 53, 54, 75, 87]⟩, ⟨#[100, 105, 114]⟩, ⟨#[69, 67, 68, 72, 45, 69, 83]⟩, ⟨#[69, 67, 68, 72, 45, 69, 83, 43, 65, 49, 50, 56, 75, 87]⟩, ⟨#[69, 67, 68, 72, 45, 69, 83, 43, 65, 49, 57, 50, 75, 87]⟩, ⟨#[69, 67, 68, 72, 45, 69, 83, 43, 65, 50, 53, 54, 75, 87]⟩, ⟨#[65, 49, 50, 56, 71, 67, 77, 75, 87]⟩, ⟨#[65, 49, 57, 50, 71, 67, 77, 75, 87]⟩, ⟨#[65, 50, 53, 54, 71, 67, 77, 75, 87]⟩, ⟨#[80, 66, 69, 83, 50, 45, 72, 83, 50, 53, 54, 43, 65, 49, 50, 56, 75, 87]⟩, ⟨#[80, 66, 69, 83, 50, 45, 72, 83, 51, 56, 52, 43, 65, 49, 57, 50, 75, 87]⟩, ⟨#[80, 66, 69, 83, 50, 45, 72, 83, 53, 49, 50, 43, 65, 50, 53, 54, 75, 87]⟩]
  | 2 => [⟨#[65, 49, 50, 56, 67, 66, 67, 45, 72, 83, 50, 53, 54]⟩, ⟨#[65, 49, 57, 50, 67, 66, 67, 45, 72, 83, 51, 56, 52]⟩, ⟨#[65, 50, 53, 54, 67, 66, 67, 45, 72, 83, 53, 49, 50]⟩, ⟨#[65, 49, 50, 56, 71, 67, 77]⟩, ⟨#[65, 49, 57, 50, 71, 67, 77]⟩, ⟨#[65, 50, 53, 54, 71, 67, 77]⟩]
  | 3 => [⟨#[68, 69, 70]⟩]
  | 4 => [⟨#[80, 45, 50, 53, 54]⟩, ⟨#[80, 45, 51, 56, 52]⟩, ⟨#[80, 45, 53, 50, 49]⟩, ⟨#[69, 100, 50, 53, 53, 49, 57]⟩, ⟨#[69, 100, 52, 52, 56]⟩, ⟨#[88, 50, 53, 53, 49, 57]⟩, ⟨#[88, 52, 52, 56]⟩]
  | _ => [⟨#[69, 67]⟩, ⟨#[82, 83, 65]⟩, ⟨#[111, 99, 116]⟩, ⟨#[79, 75, 80]⟩]
def StdPost (k : Nat) (w : World) (e : Ending) (w' : World) : Prop :=
  ∃ ad : Addr, e = .returned (.slice (some ad) (stds k).length (stds k).length) ∧ Below w.heap.size w w' ∧ ∀ j (h : j < (stds k).length), w'.cell? (ad.add j) = some (.string (stds k)[j])
theorem std_post {k n : Nat} {w w' : World} {b : Nat} {T : TypeId} {cs : Array Value} (hn : n = (stds k).length) (hB : Below w.heap.size w w') (hb : Blk w' b T cs) (hc : cs.toList = (stds k).map Value.string) : StdPost k w (.returned (.slice (some ⟨b, 0, none⟩) n n)) w' := by
  subst hn
  refine ⟨_, rfl, hB, fun j h => ?_⟩
  rw [show (Addr.add ⟨b, 0, none⟩ j) = ⟨b, j, none⟩ by rw [add_at]; simp, hb.cell, ← Array.getElem?_toList, hc, List.getElem?_map, List.getElem?_eq_getElem h]
  rfl
set_option maxRecDepth 100000 in
set_option maxHeartbeats 1000000 in
theorem NameStandard_0 (w : World) : Calls Try.prog 5 #[.int .i64 0] w (StdPost 0 w) := by
  go_enter Try.func5, Try.ntmps5
  go_wp2
  go_ret
  exact std_post rfl (below_alloc' (Below.refl w.heap.size w) _) (Blk.new w _ _) rfl
set_option maxRecDepth 100000 in
set_option maxHeartbeats 1000000 in
theorem NameStandard_1 (w : World) : Calls Try.prog 5 #[.int .i64 1] w (StdPost 1 w) := by
  go_enter Try.func5, Try.ntmps5
  go_wp2
  go_ret
  exact std_post rfl (below_alloc' (Below.refl w.heap.size w) _) (Blk.new w _ _) rfl
set_option maxRecDepth 100000 in
set_option maxHeartbeats 1000000 in
theorem NameStandard_2 (w : World) : Calls Try.prog 5 #[.int .i64 2] w (StdPost 2 w) := by
  go_enter Try.func5, Try.ntmps5
  go_wp2
  go_ret
  exact std_post rfl (below_alloc' (Below.refl w.heap.size w) _) (Blk.new w _ _) rfl
set_option maxRecDepth 100000 in
set_option maxHeartbeats 1000000 in
theorem NameStandard_3 (w : World) : Calls Try.prog 5 #[.int .i64 3] w (StdPost 3 w) := by
  go_enter Try.func5, Try.ntmps5
  go_wp2
  go_ret
  exact std_post rfl (below_alloc' (Below.refl w.heap.size w) _) (Blk.new w _ _) rfl
set_option maxRecDepth 100000 in
set_option maxHeartbeats 1000000 in
theorem NameStandard_4 (w : World) : Calls Try.prog 5 #[.int .i64 4] w (StdPost 4 w) := by
  go_enter Try.func5, Try.ntmps5
  go_wp2
  go_ret
  exact std_post rfl (below_alloc' (Below.refl w.heap.size w) _) (Blk.new w _ _) rfl
set_option maxRecDepth 100000 in
set_option maxHeartbeats 1000000 in
theorem NameStandard_5 (w : World) : Calls Try.prog 5 #[.int .i64 5] w (StdPost 5 w) := by
  go_enter Try.func5, Try.ntmps5
  go_wp2
  go_ret
  exact std_post rfl (below_alloc' (Below.refl w.heap.size w) _) (Blk.new w _ _) rfl
end Go.Proofs.Ytenneobgjalfhaa.Nm
