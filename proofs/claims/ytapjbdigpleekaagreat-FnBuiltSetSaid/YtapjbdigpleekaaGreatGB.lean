import Derived.Test.YtapjbdigpleekaaGreatGA
import Derived.Deep.LoopGhost
import Derived.Laws.FloatArith
import Derived.Test.YtapjbdigpleekaaGreatK
import Derived.MapFrom
import Derived.Maps.RangeRun
import Derived.Maps.Range
import Derived.Maps.RangeWalk
/- slices.Contains over texts: just what is in the list; no condition but a length that can be held. -/
set_option linter.unusedVariables false
set_option linter.unusedSimpArgs false
namespace Go.Proofs.YtapjbdigpleekaaGreat.Mp
open Go.RowKit Go.Proofs.YtapjbdigpleekaaGreat.K Go.Proofs.YtapjbdigpleekaaGreat.Cl
theorem str_ne {x y : ByteArray} (h : x ≠ y) : (x.toList == y.toList) = false := by
  rw [beq_eq_false_iff_ne]
  intro e
  rw [ByteArray.toList_eq, ByteArray.toList_eq] at e
  exact h (Go.WideShapes.bytes_inj e)
set_option maxRecDepth 100000 in
set_option maxHeartbeats 1000000 in
theorem EIndex_calls (w : World) (A : Option Addr) (n c : Nat) (l : List ByteArray) (x : ByteArray) (h : SL w A n l) (hn : n ≤ 100000) :
    Calls Tryz.prog 61 #[.slice A n c, .string x] w fun e w' => (∃ i : Int, e = .returned (.int .i64 i) ∧ (0 ≤ i ↔ x ∈ l)) ∧ w = w' := by
  have HLN := Lib.hid h.len
  go_enter Tryz.func61, Tryz.ntmps61
  go_wp2
  go_loopg [8] n (fun q u wr => ∃ j : Nat, q + j = n ∧ u = .int .i64 j ∧ wr = w ∧ Hid (∀ y ∈ l.take j, y ≠ x))
  case atStart => exact ⟨0, rfl, rfl, rfl, Lib.hid (by simp)⟩
  case round =>
    obtain ⟨j, hqj, rfl, hw, HP⟩ := hrel
    subst hw
    by_cases hj : j < n
    · have hjl : j < l.length := by have := HLN.out; omega
      obtain ⟨ad, rfl, hc1⟩ := h.at_ hjl
      obtain ⟨y, hy⟩ : ∃ y, y = l[j] := ⟨_, rfl⟩
      rw [← hy] at hc1
      have HY := Lib.hid hy
      clear hy
      by_cases hxe : x = y
      · subst hxe
        go_wp2
        go_ret
        exact ⟨⟨_, rfl, ⟨fun _ => by rw [HY.out]; exact List.getElem_mem _, fun _ => by omega⟩⟩, rfl⟩
      · have hxy := str_ne hxe
        have HXE := Lib.hid hxe
        clear hxe
        go_wp2
        go_roundg (n - (j + 1))
        case measure => omega
        case rel =>
          refine ⟨j + 1, by omega, by go_num, rfl, Lib.hid ?_⟩
          intro z hz
          rw [List.take_succ_eq_append_getElem hjl] at hz
          rcases List.mem_append.1 hz with hz | hz
          · exact HP.out z hz
          · rw [List.mem_singleton.1 hz, ← HY.out]
            exact fun e => HXE.out e.symm
    · obtain rfl : j = n := by omega
      go_wp2
      go_ret
      refine ⟨⟨_, rfl, ⟨fun h => absurd h (by decide), fun hm => ?_⟩⟩, rfl⟩
      have := HP.out x (by rw [List.take_of_length_le (by have := HLN.out; omega)]; exact hm)
      exact absurd rfl this
theorem EContains_calls (w : World) (A : Option Addr) (n c : Nat) (l : List ByteArray) (x : ByteArray) (h : SL w A n l) (hn : n ≤ 100000) :
    Calls Tryz.prog 22 #[.slice A n c, .string x] w fun e w' => (∃ r : Bool, e = .returned (.bool r) ∧ (r = true ↔ x ∈ l)) ∧ w = w' := by
  have HI := Lib.hid (EIndex_calls w A n c l x h hn)
  clear h
  go_enter Tryz.func22, Tryz.ntmps22
  go_wp2_with fail
  refine HI.out.mono ?_
  rintro e w1 ⟨⟨i, rfl, hi⟩, rfl⟩
  have HH := Lib.hid hi
  clear hi
  go_wp2
  go_ret
  exact ⟨⟨_, rfl, by rw [decide_eq_true_iff]; exact HH.out⟩, rfl⟩
end Go.Proofs.YtapjbdigpleekaaGreat.Mp

/- The spec's lists of names: MapTexts, mapTruths, mapLists, MapOther, MapKnown, exactly; no condition but the four kinds of maps. Printed by gen_mpspec.py. -/
set_option linter.unusedVariables false
set_option linter.unusedSimpArgs false
namespace Go.Proofs.YtapjbdigpleekaaGreat.Mp
open Go.RowKit Go.Proofs.YtapjbdigpleekaaGreat.K Go.Proofs.YtapjbdigpleekaaGreat.Cl
/-- The names of texts. -/
def txtL : Nat → List ByteArray
  | 0 => [⟨#[99, 116, 121]⟩, ⟨#[106, 107, 117]⟩, ⟨#[107, 105, 100]⟩, ⟨#[116, 121, 112]⟩, ⟨#[120, 53, 116]⟩, ⟨#[120, 53, 116, 35, 83, 50, 53, 54]⟩, ⟨#[120, 53, 117]⟩]
  | 1 => [⟨#[99, 116, 121]⟩, ⟨#[106, 107, 117]⟩, ⟨#[107, 105, 100]⟩, ⟨#[116, 121, 112]⟩, ⟨#[120, 53, 116]⟩, ⟨#[120, 53, 116, 35, 83, 50, 53, 54]⟩, ⟨#[120, 53, 117]⟩]
  | 2 => [⟨#[105, 115, 115]⟩, ⟨#[106, 116, 105]⟩, ⟨#[115, 117, 98]⟩]
  | _ => [⟨#[101, 109, 97, 105, 108]⟩, ⟨#[102, 97, 109, 105, 108, 121, 95, 110, 97, 109, 101]⟩, ⟨#[103, 101, 110, 100, 101, 114]⟩, ⟨#[103, 105, 118, 101, 110, 95, 110, 97, 109, 101]⟩, ⟨#[105, 115, 115]⟩, ⟨#[106, 116, 105]⟩, ⟨#[108, 111, 99, 97, 108, 101]⟩, ⟨#[109, 105, 100, 100, 108, 101, 95, 110, 97, 109, 101]⟩, ⟨#[110, 97, 109, 101]⟩, ⟨#[110, 105, 99, 107, 110, 97, 109, 101]⟩, ⟨#[112, 104, 111, 110, 101, 95, 110, 117, 109, 98, 101, 114]⟩, ⟨#[112, 105, 99, 116, 117, 114, 101]⟩, ⟨#[112, 114, 101, 102, 101, 114, 114, 101, 100, 95, 117, 115, 101, 114, 110, 97, 109, 101]⟩, ⟨#[112, 114, 111, 102, 105, 108, 101]⟩, ⟨#[115, 117, 98]⟩, ⟨#[119, 101, 98, 115, 105, 116, 101]⟩, ⟨#[122, 111, 110, 101, 105, 110, 102, 111]⟩]
/-- The names of truth values. -/
def truL : Nat → List ByteArray
  | 0 => []
  | 1 => []
  | 2 => []
  | _ => [⟨#[101, 109, 97, 105, 108, 95, 118, 101, 114, 105, 102, 105, 101, 100]⟩, ⟨#[112, 104, 111, 110, 101, 95, 110, 117, 109, 98, 101, 114, 95, 118, 101, 114, 105, 102, 105, 101, 100]⟩]
/-- The names of lists. -/
def lstL : Nat → List ByteArray
  | 0 => [⟨#[99, 114, 105, 116]⟩]
  | 1 => [⟨#[99, 114, 105, 116]⟩]
  | 2 => [⟨#[97, 117, 100]⟩]
  | _ => [⟨#[97, 117, 100]⟩]
/-- The names of which the laws say nothing. -/
def othL : Nat → List ByteArray
  | 0 => [⟨#[]⟩, ⟨#[97, 108, 103]⟩, ⟨#[98, 54, 52]⟩, ⟨#[106, 119, 107]⟩, ⟨#[120, 53, 99]⟩]
  | 1 => [⟨#[]⟩, ⟨#[97, 108, 103]⟩, ⟨#[97, 112, 117]⟩, ⟨#[97, 112, 118]⟩, ⟨#[101, 110, 99]⟩, ⟨#[101, 112, 107]⟩, ⟨#[106, 119, 107]⟩, ⟨#[120, 53, 99]⟩, ⟨#[122, 105, 112]⟩]
  | 2 => [⟨#[]⟩, ⟨#[101, 120, 112]⟩, ⟨#[105, 97, 116]⟩, ⟨#[110, 98, 102]⟩]
  | _ => [⟨#[]⟩, ⟨#[101, 120, 112]⟩, ⟨#[105, 97, 116]⟩, ⟨#[110, 98, 102]⟩, ⟨#[97, 100, 100, 114, 101, 115, 115]⟩, ⟨#[98, 105, 114, 116, 104, 100, 97, 116, 101]⟩, ⟨#[117, 112, 100, 97, 116, 101, 100, 95, 97, 116]⟩]
/-- A list of texts comes back. -/
def SLP (w : World) (l : List ByteArray) (e : Ending) (w' : World) : Prop := ∃ A n c, e = .returned (.slice A n c) ∧ SL w' A n l ∧ n ≤ 100 ∧ Below w.heap.size w w'
/-- A truth value that tells p comes back. -/
def TellP (w : World) (p : Prop) (e : Ending) (w' : World) : Prop := ∃ r : Bool, e = .returned (.bool r) ∧ (r = true ↔ p) ∧ Below w.heap.size w w'
set_option maxRecDepth 100000 in
theorem MapTexts_0 (w : World) : Calls Tryz.prog 33 #[.int .i64 0] w (SLP w (txtL 0)) := by
  go_enter Tryz.func33, Tryz.ntmps33
  go_wp2
  go_ret
  exact ⟨_, _, _, rfl, reads_lit w 1 7 (strs [⟨#[99, 116, 121]⟩, ⟨#[106, 107, 117]⟩, ⟨#[107, 105, 100]⟩, ⟨#[116, 121, 112]⟩, ⟨#[120, 53, 116]⟩, ⟨#[120, 53, 116, 35, 83, 50, 53, 54]⟩, ⟨#[120, 53, 117]⟩]) _ rfl rfl _, by decide, below_alloc' (Below.refl _ _) _⟩
set_option maxRecDepth 100000 in
theorem MapTexts_1 (w : World) : Calls Tryz.prog 33 #[.int .i64 1] w (SLP w (txtL 1)) := by
  go_enter Tryz.func33, Tryz.ntmps33
  go_wp2
  go_ret
  exact ⟨_, _, _, rfl, reads_lit w 1 7 (strs [⟨#[99, 116, 121]⟩, ⟨#[106, 107, 117]⟩, ⟨#[107, 105, 100]⟩, ⟨#[116, 121, 112]⟩, ⟨#[120, 53, 116]⟩, ⟨#[120, 53, 116, 35, 83, 50, 53, 54]⟩, ⟨#[120, 53, 117]⟩]) _ rfl rfl _, by decide, below_alloc' (Below.refl _ _) _⟩
set_option maxRecDepth 100000 in
theorem MapTexts_2 (w : World) : Calls Tryz.prog 33 #[.int .i64 2] w (SLP w (txtL 2)) := by
  go_enter Tryz.func33, Tryz.ntmps33
  go_wp2
  go_ret
  exact ⟨_, _, _, rfl, reads_lit w 1 3 (strs [⟨#[105, 115, 115]⟩, ⟨#[106, 116, 105]⟩, ⟨#[115, 117, 98]⟩]) _ rfl rfl _, by decide, below_alloc' (Below.refl _ _) _⟩
set_option maxRecDepth 100000 in
theorem MapTexts_3 (w : World) : Calls Tryz.prog 33 #[.int .i64 3] w (SLP w (txtL 3)) := by
  go_enter Tryz.func33, Tryz.ntmps33
  go_wp2
  go_ret
  exact ⟨_, _, _, rfl, reads_lit w 1 17 (strs [⟨#[101, 109, 97, 105, 108]⟩, ⟨#[102, 97, 109, 105, 108, 121, 95, 110, 97, 109, 101]⟩, ⟨#[103, 101, 110, 100, 101, 114]⟩, ⟨#[103, 105, 118, 101, 110, 95, 110, 97, 109, 101]⟩, ⟨#[105, 115, 115]⟩, ⟨#[106, 116, 105]⟩, ⟨#[108, 111, 99, 97, 108, 101]⟩, ⟨#[109, 105, 100, 100, 108, 101, 95, 110, 97, 109, 101]⟩, ⟨#[110, 97, 109, 101]⟩, ⟨#[110, 105, 99, 107, 110, 97, 109, 101]⟩, ⟨#[112, 104, 111, 110, 101, 95, 110, 117, 109, 98, 101, 114]⟩, ⟨#[112, 105, 99, 116, 117, 114, 101]⟩, ⟨#[112, 114, 101, 102, 101, 114, 114, 101, 100, 95, 117, 115, 101, 114, 110, 97, 109, 101]⟩, ⟨#[112, 114, 111, 102, 105, 108, 101]⟩, ⟨#[115, 117, 98]⟩, ⟨#[119, 101, 98, 115, 105, 116, 101]⟩, ⟨#[122, 111, 110, 101, 105, 110, 102, 111]⟩]) _ rfl rfl _, by decide, below_alloc' (Below.refl _ _) _⟩
theorem MapTexts_calls (w : World) (k : Nat) (hk : k < 4) : Calls Tryz.prog 33 #[.int .i64 (k : Int)] w (SLP w (txtL k)) := by
  rcases (by omega : k = 0 ∨ k = 1 ∨ k = 2 ∨ k = 3) with rfl | rfl | rfl | rfl
  · exact MapTexts_0 w
  · exact MapTexts_1 w
  · exact MapTexts_2 w
  · exact MapTexts_3 w
set_option maxRecDepth 100000 in
theorem mapTruths_0 (w : World) : Calls Tryz.prog 109 #[.int .i64 0] w (SLP w (truL 0)) := by
  go_enter Tryz.func109, Tryz.ntmps109
  go_wp2
  go_ret
  exact ⟨_, _, _, rfl, ⟨rfl, fun h => absurd h (by decide)⟩, by decide, Below.refl _ _⟩
set_option maxRecDepth 100000 in
theorem mapTruths_1 (w : World) : Calls Tryz.prog 109 #[.int .i64 1] w (SLP w (truL 1)) := by
  go_enter Tryz.func109, Tryz.ntmps109
  go_wp2
  go_ret
  exact ⟨_, _, _, rfl, ⟨rfl, fun h => absurd h (by decide)⟩, by decide, Below.refl _ _⟩
set_option maxRecDepth 100000 in
theorem mapTruths_2 (w : World) : Calls Tryz.prog 109 #[.int .i64 2] w (SLP w (truL 2)) := by
  go_enter Tryz.func109, Tryz.ntmps109
  go_wp2
  go_ret
  exact ⟨_, _, _, rfl, ⟨rfl, fun h => absurd h (by decide)⟩, by decide, Below.refl _ _⟩
set_option maxRecDepth 100000 in
theorem mapTruths_3 (w : World) : Calls Tryz.prog 109 #[.int .i64 3] w (SLP w (truL 3)) := by
  go_enter Tryz.func109, Tryz.ntmps109
  go_wp2
  go_ret
  exact ⟨_, _, _, rfl, reads_lit w 1 2 (strs [⟨#[101, 109, 97, 105, 108, 95, 118, 101, 114, 105, 102, 105, 101, 100]⟩, ⟨#[112, 104, 111, 110, 101, 95, 110, 117, 109, 98, 101, 114, 95, 118, 101, 114, 105, 102, 105, 101, 100]⟩]) _ rfl rfl _, by decide, below_alloc' (Below.refl _ _) _⟩
theorem mapTruths_calls (w : World) (k : Nat) (hk : k < 4) : Calls Tryz.prog 109 #[.int .i64 (k : Int)] w (SLP w (truL k)) := by
  rcases (by omega : k = 0 ∨ k = 1 ∨ k = 2 ∨ k = 3) with rfl | rfl | rfl | rfl
  · exact mapTruths_0 w
  · exact mapTruths_1 w
  · exact mapTruths_2 w
  · exact mapTruths_3 w
set_option maxRecDepth 100000 in
theorem mapLists_0 (w : World) : Calls Tryz.prog 110 #[.int .i64 0] w (SLP w (lstL 0)) := by
  go_enter Tryz.func110, Tryz.ntmps110
  go_wp2
  go_ret
  exact ⟨_, _, _, rfl, reads_lit w 1 1 (strs [⟨#[99, 114, 105, 116]⟩]) _ rfl rfl _, by decide, below_alloc' (Below.refl _ _) _⟩
set_option maxRecDepth 100000 in
theorem mapLists_1 (w : World) : Calls Tryz.prog 110 #[.int .i64 1] w (SLP w (lstL 1)) := by
  go_enter Tryz.func110, Tryz.ntmps110
  go_wp2
  go_ret
  exact ⟨_, _, _, rfl, reads_lit w 1 1 (strs [⟨#[99, 114, 105, 116]⟩]) _ rfl rfl _, by decide, below_alloc' (Below.refl _ _) _⟩
set_option maxRecDepth 100000 in
theorem mapLists_2 (w : World) : Calls Tryz.prog 110 #[.int .i64 2] w (SLP w (lstL 2)) := by
  go_enter Tryz.func110, Tryz.ntmps110
  go_wp2
  go_ret
  exact ⟨_, _, _, rfl, reads_lit w 1 1 (strs [⟨#[97, 117, 100]⟩]) _ rfl rfl _, by decide, below_alloc' (Below.refl _ _) _⟩
set_option maxRecDepth 100000 in
theorem mapLists_3 (w : World) : Calls Tryz.prog 110 #[.int .i64 3] w (SLP w (lstL 3)) := by
  go_enter Tryz.func110, Tryz.ntmps110
  go_wp2
  go_ret
  exact ⟨_, _, _, rfl, reads_lit w 1 1 (strs [⟨#[97, 117, 100]⟩]) _ rfl rfl _, by decide, below_alloc' (Below.refl _ _) _⟩
theorem mapLists_calls (w : World) (k : Nat) (hk : k < 4) : Calls Tryz.prog 110 #[.int .i64 (k : Int)] w (SLP w (lstL k)) := by
  rcases (by omega : k = 0 ∨ k = 1 ∨ k = 2 ∨ k = 3) with rfl | rfl | rfl | rfl
  · exact mapLists_0 w
  · exact mapLists_1 w
  · exact mapLists_2 w
  · exact mapLists_3 w
set_option maxRecDepth 100000 in
set_option maxHeartbeats 1000000 in
theorem MapOther_0 (w : World) (x : ByteArray) : Calls Tryz.prog 49 #[.int .i64 0, .string x] w (TellP w (x ∈ othL 0)) := by
  have HC := Lib.hid (EContains_calls (w.alloc (.cells (strs [⟨#[]⟩, ⟨#[97, 108, 103]⟩, ⟨#[98, 54, 52]⟩, ⟨#[106, 119, 107]⟩, ⟨#[120, 53, 99]⟩]).toArray 9)) (some ⟨w.heap.size, 0, none⟩) 5 5 [⟨#[]⟩, ⟨#[97, 108, 103]⟩, ⟨#[98, 54, 52]⟩, ⟨#[106, 119, 107]⟩, ⟨#[120, 53, 99]⟩] x (reads_lit w 1 5 (strs [⟨#[]⟩, ⟨#[97, 108, 103]⟩, ⟨#[98, 54, 52]⟩, ⟨#[106, 119, 107]⟩, ⟨#[120, 53, 99]⟩]) _ rfl rfl _) (by decide))
  have HB := Lib.hid (below_alloc' (Below.refl w.heap.size w) (.cells (strs [⟨#[]⟩, ⟨#[97, 108, 103]⟩, ⟨#[98, 54, 52]⟩, ⟨#[106, 119, 107]⟩, ⟨#[120, 53, 99]⟩]).toArray 9))
  go_enter Tryz.func49, Tryz.ntmps49
  go_wp2_with fail
  refine HC.out.mono ?_
  rintro e w1 ⟨⟨r, rfl, hr⟩, hw⟩
  have HB1 := Lib.hid (show Below w.heap.size w w1 by rw [← hw]; exact HB.out)
  have HR := Lib.hid hr
  clear hw hr
  go_wp2
  go_ret
  exact ⟨_, rfl, HR.out, HB1.out⟩
set_option maxRecDepth 100000 in
set_option maxHeartbeats 1000000 in
theorem MapOther_1 (w : World) (x : ByteArray) : Calls Tryz.prog 49 #[.int .i64 1, .string x] w (TellP w (x ∈ othL 1)) := by
  have HC := Lib.hid (EContains_calls (w.alloc (.cells (strs [⟨#[]⟩, ⟨#[97, 108, 103]⟩, ⟨#[97, 112, 117]⟩, ⟨#[97, 112, 118]⟩, ⟨#[101, 110, 99]⟩, ⟨#[101, 112, 107]⟩, ⟨#[106, 119, 107]⟩, ⟨#[120, 53, 99]⟩, ⟨#[122, 105, 112]⟩]).toArray 9)) (some ⟨w.heap.size, 0, none⟩) 9 9 [⟨#[]⟩, ⟨#[97, 108, 103]⟩, ⟨#[97, 112, 117]⟩, ⟨#[97, 112, 118]⟩, ⟨#[101, 110, 99]⟩, ⟨#[101, 112, 107]⟩, ⟨#[106, 119, 107]⟩, ⟨#[120, 53, 99]⟩, ⟨#[122, 105, 112]⟩] x (reads_lit w 1 9 (strs [⟨#[]⟩, ⟨#[97, 108, 103]⟩, ⟨#[97, 112, 117]⟩, ⟨#[97, 112, 118]⟩, ⟨#[101, 110, 99]⟩, ⟨#[101, 112, 107]⟩, ⟨#[106, 119, 107]⟩, ⟨#[120, 53, 99]⟩, ⟨#[122, 105, 112]⟩]) _ rfl rfl _) (by decide))
  have HB := Lib.hid (below_alloc' (Below.refl w.heap.size w) (.cells (strs [⟨#[]⟩, ⟨#[97, 108, 103]⟩, ⟨#[97, 112, 117]⟩, ⟨#[97, 112, 118]⟩, ⟨#[101, 110, 99]⟩, ⟨#[101, 112, 107]⟩, ⟨#[106, 119, 107]⟩, ⟨#[120, 53, 99]⟩, ⟨#[122, 105, 112]⟩]).toArray 9))
  go_enter Tryz.func49, Tryz.ntmps49
  go_wp2_with fail
  refine HC.out.mono ?_
  rintro e w1 ⟨⟨r, rfl, hr⟩, hw⟩
  have HB1 := Lib.hid (show Below w.heap.size w w1 by rw [← hw]; exact HB.out)
  have HR := Lib.hid hr
  clear hw hr
  go_wp2
  go_ret
  exact ⟨_, rfl, HR.out, HB1.out⟩
set_option maxRecDepth 100000 in
set_option maxHeartbeats 1000000 in
theorem MapOther_2 (w : World) (x : ByteArray) : Calls Tryz.prog 49 #[.int .i64 2, .string x] w (TellP w (x ∈ othL 2)) := by
  have HC := Lib.hid (EContains_calls (w.alloc (.cells (strs [⟨#[]⟩, ⟨#[101, 120, 112]⟩, ⟨#[105, 97, 116]⟩, ⟨#[110, 98, 102]⟩]).toArray 9)) (some ⟨w.heap.size, 0, none⟩) 4 4 [⟨#[]⟩, ⟨#[101, 120, 112]⟩, ⟨#[105, 97, 116]⟩, ⟨#[110, 98, 102]⟩] x (reads_lit w 1 4 (strs [⟨#[]⟩, ⟨#[101, 120, 112]⟩, ⟨#[105, 97, 116]⟩, ⟨#[110, 98, 102]⟩]) _ rfl rfl _) (by decide))
  have HB := Lib.hid (below_alloc' (Below.refl w.heap.size w) (.cells (strs [⟨#[]⟩, ⟨#[101, 120, 112]⟩, ⟨#[105, 97, 116]⟩, ⟨#[110, 98, 102]⟩]).toArray 9))
  go_enter Tryz.func49, Tryz.ntmps49
  go_wp2_with fail
  refine HC.out.mono ?_
  rintro e w1 ⟨⟨r, rfl, hr⟩, hw⟩
  have HB1 := Lib.hid (show Below w.heap.size w w1 by rw [← hw]; exact HB.out)
  have HR := Lib.hid hr
  clear hw hr
  cases r with
  | false =>
    go_wp2
    go_ret
    exact ⟨_, rfl, HR.out, HB1.out⟩
  | true =>
    go_wp2
    go_ret
    exact ⟨_, rfl, ⟨fun _ => HR.out.1 trivial, fun _ => rfl⟩, HB1.out⟩
set_option maxRecDepth 100000 in
set_option maxHeartbeats 1000000 in
theorem MapOther_3 (w : World) (x : ByteArray) : Calls Tryz.prog 49 #[.int .i64 3, .string x] w (TellP w (x ∈ othL 3)) := by
  have HC := Lib.hid (EContains_calls (w.alloc (.cells (strs [⟨#[]⟩, ⟨#[101, 120, 112]⟩, ⟨#[105, 97, 116]⟩, ⟨#[110, 98, 102]⟩]).toArray 9)) (some ⟨w.heap.size, 0, none⟩) 4 4 [⟨#[]⟩, ⟨#[101, 120, 112]⟩, ⟨#[105, 97, 116]⟩, ⟨#[110, 98, 102]⟩] x (reads_lit w 1 4 (strs [⟨#[]⟩, ⟨#[101, 120, 112]⟩, ⟨#[105, 97, 116]⟩, ⟨#[110, 98, 102]⟩]) _ rfl rfl _) (by decide))
  have HB := Lib.hid (below_alloc' (Below.refl w.heap.size w) (.cells (strs [⟨#[]⟩, ⟨#[101, 120, 112]⟩, ⟨#[105, 97, 116]⟩, ⟨#[110, 98, 102]⟩]).toArray 9))
  have HD := Lib.hid (fun W : World => EContains_calls (W.alloc (.cells (strs [⟨#[97, 100, 100, 114, 101, 115, 115]⟩, ⟨#[98, 105, 114, 116, 104, 100, 97, 116, 101]⟩, ⟨#[117, 112, 100, 97, 116, 101, 100, 95, 97, 116]⟩]).toArray 9)) (some ⟨W.heap.size, 0, none⟩) 3 3 [⟨#[97, 100, 100, 114, 101, 115, 115]⟩, ⟨#[98, 105, 114, 116, 104, 100, 97, 116, 101]⟩, ⟨#[117, 112, 100, 97, 116, 101, 100, 95, 97, 116]⟩] x (reads_lit W 1 3 (strs [⟨#[97, 100, 100, 114, 101, 115, 115]⟩, ⟨#[98, 105, 114, 116, 104, 100, 97, 116, 101]⟩, ⟨#[117, 112, 100, 97, 116, 101, 100, 95, 97, 116]⟩]) _ rfl rfl _) (by decide))
  go_enter Tryz.func49, Tryz.ntmps49
  go_wp2_with fail
  refine HC.out.mono ?_
  rintro e w1 ⟨⟨r, rfl, hr⟩, hw⟩
  have HB1 := Lib.hid (show Below w.heap.size w w1 by rw [← hw]; exact HB.out)
  have HR := Lib.hid hr
  clear hw hr
  cases r with
  | true =>
    go_wp2
    go_ret
    exact ⟨_, rfl, ⟨fun _ => List.mem_append.2 (Or.inl (HR.out.1 trivial)), fun _ => rfl⟩, HB1.out⟩
  | false =>
    have HB2 := Lib.hid (below_alloc' HB1.out (.cells (strs [⟨#[97, 100, 100, 114, 101, 115, 115]⟩, ⟨#[98, 105, 114, 116, 104, 100, 97, 116, 101]⟩, ⟨#[117, 112, 100, 97, 116, 101, 100, 95, 97, 116]⟩]).toArray 9))
    go_wp2_with fail
    refine (HD.out w1).mono ?_
    rintro e w2 ⟨⟨r2, rfl, hr2⟩, hw⟩
    have HB3 := Lib.hid (show Below w.heap.size w w2 by rw [← hw]; exact HB2.out)
    have HR2 := Lib.hid hr2
    clear hw hr2
    have HN := Lib.hid (show x ∈ othL 3 ↔ x ∈ [⟨#[]⟩, ⟨#[101, 120, 112]⟩, ⟨#[105, 97, 116]⟩, ⟨#[110, 98, 102]⟩] ∨ x ∈ [⟨#[97, 100, 100, 114, 101, 115, 115]⟩, ⟨#[98, 105, 114, 116, 104, 100, 97, 116, 101]⟩, ⟨#[117, 112, 100, 97, 116, 101, 100, 95, 97, 116]⟩] from List.mem_append (s := ([⟨#[]⟩, ⟨#[101, 120, 112]⟩, ⟨#[105, 97, 116]⟩, ⟨#[110, 98, 102]⟩] : List ByteArray)) (t := ([⟨#[97, 100, 100, 114, 101, 115, 115]⟩, ⟨#[98, 105, 114, 116, 104, 100, 97, 116, 101]⟩, ⟨#[117, 112, 100, 97, 116, 101, 100, 95, 97, 116]⟩] : List ByteArray)))
    have hn : ¬ x ∈ [⟨#[]⟩, ⟨#[101, 120, 112]⟩, ⟨#[105, 97, 116]⟩, ⟨#[110, 98, 102]⟩] := fun h => by have := HR.out.2 h; simp at this
    have HNN := Lib.hid hn
    clear hn
    go_wp2
    go_ret
    exact ⟨_, rfl, ⟨fun h => HN.out.2 (Or.inr (HR2.out.1 h)), fun h => (HN.out.1 h).elim (fun h => absurd h HNN.out) HR2.out.2⟩, HB3.out⟩
theorem MapOther_calls (w : World) (k : Nat) (hk : k < 4) (x : ByteArray) : Calls Tryz.prog 49 #[.int .i64 (k : Int), .string x] w (TellP w (x ∈ othL k)) := by
  rcases (by omega : k = 0 ∨ k = 1 ∨ k = 2 ∨ k = 3) with rfl | rfl | rfl | rfl
  · exact MapOther_0 w x
  · exact MapOther_1 w x
  · exact MapOther_2 w x
  · exact MapOther_3 w x
end Go.Proofs.YtapjbdigpleekaaGreat.Mp

/- mapShort over fields, for each kind of maps; no condition but what can be held. -/
set_option linter.unusedVariables false
set_option linter.unusedSimpArgs false
namespace Go.Proofs.YtapjbdigpleekaaGreat.Mp
open Go.RowKit Go.Proofs.YtapjbdigpleekaaGreat.K Go.Proofs.YtapjbdigpleekaaGreat.Cl
/-- What mapShort lets in of a field. -/
def ShF (K : Nat) (f : Cl.Fd) : Prop := f.name.size ≤ 100 ∧ f.t.size ≤ 200 ∧ f.n ≤ 20 ∧ 0 ≤ f.k ∧ f.k ≤ 3 ∧ ¬ f.name ∈ othL K
/-- What mapShort lets in of a list of fields. -/
def ShL (K : Nat) (n : Nat) (fs : List Cl.Fd) : Prop := n ≤ 100 ∧ ∀ f ∈ fs, ShF K f
theorem six_cells {w : World} {g : Nat} {T : TypeId} {a b c d e f : Value} (h : Blk w g T #[a, b, c, d, e, f]) : w.cell? ⟨g, 0, none⟩ = some a ∧ w.cell? ⟨g, 1, none⟩ = some b ∧ w.cell? ⟨g, 2, none⟩ = some c ∧ w.cell? ⟨g, 3, none⟩ = some d ∧ w.cell? ⟨g, 4, none⟩ = some e ∧ w.cell? ⟨g, 5, none⟩ = some f :=
  ⟨by rw [h.cell]; rfl, by rw [h.cell]; rfl, by rw [h.cell]; rfl, by rw [h.cell]; rfl, by rw [h.cell]; rfl, by rw [h.cell]; rfl⟩
set_option maxRecDepth 100000 in
set_option maxHeartbeats 4000000 in
theorem mapShort_calls (w : World) (K : Nat) (hK : K < 4) (A : Option Addr) (n c : Nat) (fs : List Cl.Fd) (h : FL w A n fs) :
    Calls Tryz.prog 16 #[.int .i64 (K : Int), .slice A n c] w (SomeB w (ShL K n fs)) := by
  have HF := Lib.hid h
  have HLN := Lib.hid h.len
  have HM := Lib.hid (fun (W : World) (x : ByteArray) => MapOther_calls W K hK x)
  clear h
  by_cases hb : 100 < n
  · have hbi : (100 : Int) < (n : Int) := by omega
    go_enter Tryz.func16, Tryz.ntmps16
    go_wp2
    go_ret
    exact ⟨false, rfl, (fun h => by cases h), Below.refl _ _⟩
  have hbi : ¬ (100 : Int) < (n : Int) := by omega
  go_enter Tryz.func16, Tryz.ntmps16
  go_wp2
  go_loopg [14] n (fun q u wr => ∃ j : Nat, q + j = n ∧ u = .int .i64 j ∧ Hid (∀ f ∈ fs.take j, ShF K f) ∧ Hid (Below w.heap.size w wr))
  case atStart => exact ⟨0, rfl, rfl, (by intro f hf; simp at hf), Below.refl _ _⟩
  case round =>
    obtain ⟨j, hqj, rfl, HJ, HB⟩ := hrel
    by_cases hj : j < n
    · have hjl : j < fs.length := by have := HLN.out; omega
      obtain ⟨ad, rfl, y0, y1, y2, y3, y4, y5, hsl⟩ := (HF.out.below HB.out (Nat.le_refl _)).at_ hjl
      have hst : ∀ f ∈ fs.take (j + 1), f ∈ fs.take j ∨ f = fs[j] := fun f hf => by
        rw [List.take_succ_eq_append_getElem hjl, List.mem_append, List.mem_singleton] at hf; exact hf
      obtain ⟨f, hf⟩ : ∃ f, f = fs[j] := ⟨_, rfl⟩
      rw [← hf] at y0 y1 y2 y3 y4 y5 hsl hst
      obtain ⟨nm, k, t, b, z, A1, n1, c1, l1⟩ := f
      simp only at y0 y1 y2 y3 y4 y5 hsl
      have HST := Lib.hid hst
      clear hf hst
      have HSL := Lib.hid hsl
      have HL1 := Lib.hid hsl.len
      have HB2 := Lib.hid (below_alloc' HB.out (.cells #[.string nm, .int .i64 k, .string t, .bool b, .int .i32 z, .slice A1 n1 c1] 45))
      clear hsl
      by_cases h0 : 100 < nm.size
      · have h0i : (100 : Int) < (nm.size : Int) := by omega
        go_wp2
        go_ret
        exact ⟨false, rfl, (fun h => by cases h), HB2.out⟩
      have h0i : ¬ (100 : Int) < (nm.size : Int) := by omega
      by_cases h1 : 200 < t.size
      · have h1i : (200 : Int) < (t.size : Int) := by omega
        go_wp2
        go_ret
        exact ⟨false, rfl, (fun h => by cases h), HB2.out⟩
      have h1i : ¬ (200 : Int) < (t.size : Int) := by omega
      by_cases h2 : 20 < n1
      · have h2i : (20 : Int) < (n1 : Int) := by omega
        go_wp2
        go_ret
        exact ⟨false, rfl, (fun h => by cases h), HB2.out⟩
      have h2i : ¬ (20 : Int) < (n1 : Int) := by omega
      by_cases h3 : k < 0
      · go_wp2
        go_ret
        exact ⟨false, rfl, (fun h => by cases h), HB2.out⟩
      by_cases h4 : 3 < k
      · go_wp2
        go_ret
        exact ⟨false, rfl, (fun h => by cases h), HB2.out⟩
      go_wp2_with fail
      refine (HM.out _ _).mono ?_
      rintro e w2 ⟨r, rfl, hr, hB3⟩
      have HR := Lib.hid hr
      clear hr
      have HB3 := Lib.hid (HB2.out.trans (hB3.mono HB2.out.size))
      have HKF : Hid (Blk w2 wr.heap.size 45 #[.string nm, .int .i64 k, .string t, .bool b, .int .i32 z, .slice A1 n1 c1]) := Lib.hid ((Blk.new wr _ _).below hB3 (Blk.new wr _ _).lt)
      have HL3 := Lib.hid ((HSL.out.below (below_alloc' (Below.refl wr.heap.size wr) (.cells #[.string nm, .int .i64 k, .string t, .bool b, .int .i32 z, .slice A1 n1 c1] 45)) (Nat.le_refl _)).below hB3 (Nat.le_refl _))
      clear hB3 y0 y1 y2 y3 y4 y5
      cases r with
      | true =>
        go_wp2
        go_ret
        exact ⟨false, rfl, (fun h => by cases h), HB3.out⟩
      | false =>
        obtain ⟨y0, y1, y2, y3, y4, y5⟩ := six_cells HKF.out
        go_wp2
        go_loopg [58] n1 (fun q u wr2 => ∃ i : Nat, q + i = n1 ∧ u = .int .i64 i ∧ wr2 = w2)
        case atStart => exact ⟨0, rfl, rfl, rfl⟩
        case round =>
          obtain ⟨i, hqi, rfl, hw2⟩ := hrel
          subst hw2
          by_cases hi : i < n1
          · have hil : i < l1.length := by have := HL1.out; omega
            obtain ⟨ae, rfl, hc1⟩ := HL3.out.at_ hil
            obtain ⟨v, hv⟩ : ∃ v, v = l1[i] := ⟨_, rfl⟩
            rw [← hv] at hc1
            clear hv
            by_cases hvs : 200 < v.size
            · have hvi : (200 : Int) < (v.size : Int) := by omega
              go_wp2
              go_ret
              exact ⟨false, rfl, (fun h => by cases h), HB3.out⟩
            · have hvi : ¬ (200 : Int) < (v.size : Int) := by omega
              go_wp2
              go_roundg (n1 - (i + 1))
              case measure => omega
              case rel => exact ⟨i + 1, by omega, by go_num, rfl⟩
          · obtain rfl : i = n1 := by omega
            go_wp2
            go_roundg (n - (j + 1))
            case measure => omega
            case rel =>
              refine ⟨j + 1, by omega, by go_num, ?_, HB3⟩
              intro f hf
              rcases HST.out f hf with h | h
              · exact HJ.out f h
              · rw [h]; exact ⟨by show nm.size ≤ 100; omega, by show t.size ≤ 200; omega, by show i ≤ 20; omega, by show 0 ≤ k; omega, by show k ≤ 3; omega, fun hm => by have := HR.out.2 hm; simp at this⟩
    · obtain rfl : j = n := by omega
      have hfin : ∀ f ∈ fs, ShF K f := by
        have := HJ.out
        rwa [List.take_of_length_le (by have := HLN.out; omega)] at this
      have HFI := Lib.hid hfin
      clear hfin HJ
      go_wp2
      go_ret
      exact ⟨true, rfl, (fun _ => ⟨by omega, HFI.out⟩), HB.out⟩
end Go.Proofs.YtapjbdigpleekaaGreat.Mp

/- A whole number of 32 bits is told by its float64: plain law, no program in sight. -/
set_option linter.unusedVariables false
namespace Go.Proofs.YtapjbdigpleekaaGreat.Mp
open Ieee
theorem kept_bounds {m L : Nat} (h1 : 2 ^ L ≤ m) (h2 : m < 2 ^ (L + 1)) (hL : L ≤ 52) : 2 ^ 52 ≤ m * 2 ^ (52 - L) ∧ m * 2 ^ (52 - L) < 2 ^ 53 := by
  constructor
  · calc 2 ^ 52 = 2 ^ L * 2 ^ (52 - L) := by rw [← Nat.pow_add]; congr 1; omega
      _ ≤ _ := Nat.mul_le_mul_right _ h1
  · calc m * 2 ^ (52 - L) < 2 ^ (L + 1) * 2 ^ (52 - L) := Nat.mul_lt_mul_of_pos_right h2 (Nat.two_pow_pos _)
      _ = 2 ^ 53 := by rw [← Nat.pow_add]; congr 1; omega
theorem cut_zero (way : Toward) (s : Bool) (n : Nat) : way.cut s n 0 = n := by
  unfold Toward.cut
  cases way <;> simp [Nat.mod_one]
theorem near_double (s : Bool) (m : Nat) (h0 : m ≠ 0) (hL : m.log2 ≤ 52) : double.nearest s m 0 = double.word s ((m.log2 + 1022) * 2 ^ 52 + m * 2 ^ (52 - m.log2)) := by
  have hb := kept_bounds (Nat.log2_self_le h0) Nat.lt_log2_self hL
  unfold Format.nearest
  rw [if_neg h0]
  have e1 : double.leastPlace = -1074 := by decide
  have e2 : double.binade = 2 ^ 52 := rfl
  have e3 : double.infRung = 2047 * 2 ^ 52 := by decide
  have e4 : double.fractionBits = 52 := rfl
  simp only [e1, e2, e3, e4]
  have el : max ((0 : Int) + (m.log2 : Int) - ((52 : Nat) : Int)) (-1074) = (m.log2 : Int) - 52 := by omega
  rw [el]
  have k1 : ((0 : Int) - ((m.log2 : Int) - 52)).toNat = 52 - m.log2 := by omega
  have k2 : ((m.log2 : Int) - 52 - 0).toNat = 0 := by omega
  have k3 : ((m.log2 : Int) - 52 - (-1074)).toNat = m.log2 + 1022 := by omega
  rw [k1, k2, k3, cut_zero, Nat.shiftLeft_eq]
  congr 1
  exact Nat.min_eq_left (by omega)
theorem read_double (s : Bool) (L r : Nat) (hL : L ≤ 52) (hr : r < 2 ^ 52) : double.read (double.word s ((L + 1023) * 2 ^ 52 + r)) = .number s (2 ^ 52 + r) ((L : Int) - 52) := by
  have e1 : double.leastPlace = -1074 := by decide
  have e2 : double.binade = 2 ^ 52 := rfl
  have e3 : double.infRung = 2047 * 2 ^ 52 := by decide
  have e5 : double.signWeight = 2 ^ 63 := rfl
  unfold Format.read Format.word
  simp only [e1, e2, e3, e5]
  have hlt : (L + 1023) * 2 ^ 52 + r < 2 ^ 63 := by omega
  have hn : ((if s = true then 2 ^ 63 + ((L + 1023) * 2 ^ 52 + r) else (L + 1023) * 2 ^ 52 + r) / 2 ^ 63 % 2 == 1) = s := by
    cases s
    · simp only [Bool.false_eq_true, if_false]
      rw [Nat.div_eq_of_lt hlt]; rfl
    · simp only [if_true]
      rw [Nat.add_div_left _ (by decide), Nat.div_eq_of_lt hlt]; rfl
  have hm : (if s = true then 2 ^ 63 + ((L + 1023) * 2 ^ 52 + r) else (L + 1023) * 2 ^ 52 + r) % 2 ^ 63 = (L + 1023) * 2 ^ 52 + r := by
    cases s
    · simp only [Bool.false_eq_true, if_false]
      exact Nat.mod_eq_of_lt hlt
    · simp only [if_true]
      rw [Nat.add_mod_left]; exact Nat.mod_eq_of_lt hlt
  rw [hn, hm, if_neg (by omega), if_pos (by omega)]
  have h1 : ((L + 1023) * 2 ^ 52 + r) % 2 ^ 52 = r := by omega
  have h2 : ((L + 1023) * 2 ^ 52 + r) / 2 ^ 52 = L + 1023 := by omega
  have h3 : (-1074 : Int) + ((L + 1023 - 1 : Nat) : Int) = (L : Int) - 52 := by omega
  rw [h1, h2, h3]
theorem toInt_double (s : Bool) (m L : Nat) (h1 : 2 ^ L ≤ m) (h2 : m < 2 ^ (L + 1)) (hL : L ≤ 52) : (Datum.number s (m * 2 ^ (52 - L)) ((L : Int) - 52)).toInt .zero = some (signed s m 0) := by
  have hb := kept_bounds h1 h2 hL
  unfold Datum.toInt Datum.integral
  have k1 : ((L : Int) - 52).toNat = 0 := by omega
  have k2 : (-((L : Int) - 52)).toNat = 52 - L := by omega
  simp only [k1, k2]
  rw [Nat.shiftLeft_zero]
  have hlog : (m * 2 ^ (52 - L)).log2 = 52 := (Nat.log2_eq_iff (by omega)).2 ⟨hb.1, hb.2⟩
  have hc : Toward.zero.cut s (m * 2 ^ (52 - L)) (52 - L) = m := by
    unfold Toward.cut
    rw [hlog, Nat.min_eq_left (by omega)]
    simp only [Bool.toNat_false, Nat.add_zero, Nat.shiftLeft_eq, Nat.one_mul]
    exact Nat.mul_div_cancel _ (Nat.two_pow_pos _)
  rw [hc]
/-- The float of a whole number of 32 bits, made whole again, is it. -/
theorem float_back (z : Int) (h1 : -2147483648 ≤ z) (h2 : z ≤ 2147483647) : floatToIntVal .f64 (floatOfInt .f64 z) .i32 = some z := by
  have hd : (FloatKind.f64.decode (floatOfInt .f64 z)).toInt .zero = some z := by
    show (double.read (double.nearest (z < 0) z.natAbs 0)).toInt .zero = some z
    by_cases h0 : z.natAbs = 0
    · have : z = 0 := by omega
      subst this
      decide
    · have hm : z.natAbs < 2 ^ 33 := by omega
      have hl1 := Nat.log2_self_le h0
      have hl2 : z.natAbs < 2 ^ (z.natAbs.log2 + 1) := Nat.lt_log2_self
      have hL : z.natAbs.log2 ≤ 52 := by
        have : z.natAbs.log2 < 33 := (Nat.log2_lt h0).2 hm
        omega
      have hb := kept_bounds hl1 hl2 hL
      rw [near_double _ _ h0 hL]
      have hs : (z.natAbs.log2 + 1022) * 2 ^ 52 + z.natAbs * 2 ^ (52 - z.natAbs.log2) = (z.natAbs.log2 + 1023) * 2 ^ 52 + (z.natAbs * 2 ^ (52 - z.natAbs.log2) - 2 ^ 52) := by omega
      rw [hs, read_double _ _ _ hL (by omega)]
      have hk : 2 ^ 52 + (z.natAbs * 2 ^ (52 - z.natAbs.log2) - 2 ^ 52) = z.natAbs * 2 ^ (52 - z.natAbs.log2) := Nat.add_sub_of_le hb.1
      rw [hk, toInt_double _ _ _ hl1 hl2 hL]
      unfold signed
      rw [Nat.shiftLeft_zero]
      by_cases hz : z < 0
      · simp [hz]; omega
      · simp [hz]; omega
  unfold floatToIntVal
  rw [hd]
  show (if IntKind.i32.min ≤ z ∧ z ≤ IntKind.i32.max then some z else none) = some z
  have m1 : IntKind.i32.min = -2147483648 := by decide
  have m2 : IntKind.i32.max = 2147483647 := by decide
  rw [m1, m2, if_pos ⟨h1, h2⟩]
end Go.Proofs.YtapjbdigpleekaaGreat.Mp

/- Plain values as Go has them: impl.value exactly; the conditions are on sizes and the four kinds. -/
set_option linter.unusedVariables false
set_option linter.unusedSimpArgs false
namespace Go.Proofs.YtapjbdigpleekaaGreat.Mp
open Go.RowKit Go.Proofs.YtapjbdigpleekaaGreat.K Go.Proofs.YtapjbdigpleekaaGreat.Cl
/-- A plain value. -/
inductive PV where
  | txt (s : ByteArray)
  | tru (b : Bool)
  | num (z : Int)
  | lst (l : List ByteArray)
/-- The plain value of a field's five data. -/
def pvOf (k : Int) (t : ByteArray) (b : Bool) (z : Int) (l : List ByteArray) : PV := if k = 0 then .txt t else if k = 1 then .tru b else if k = 2 then .num z else .lst l
/-- A plain value as an interface holds it; a list lies in a row of its own at or behind B. -/
def PVal (w : World) (B : Nat) (v : Value) : PV → Prop
  | .txt s => v = .iface 9 (.string s)
  | .tru b => v = .iface 4 (.bool b)
  | .num z => v = .iface 174 (.float .f64 (floatOfInt .f64 z))
  | .lst l => ∃ a n c, v = .iface 23 (.slice (some a) n c) ∧ w.ownsRow B 9 1 (.slice (some a) n c) n (strs l)
def ValP (w : World) (pv : PV) (e : Ending) (w' : World) : Prop := ∃ v, e = .returned v ∧ PVal w' w.heap.size v pv ∧ Below w.heap.size w w'
set_option maxHeartbeats 1000000 in
theorem valueP_calls (w : World) (k : Int) (t : ByteArray) (b : Bool) (z : Int) (A : Option Addr) (n c : Nat) (l : List ByteArray) (h : SL w A n l) (hn : n ≤ 100000) (hk0 : 0 ≤ k) (hk3 : k ≤ 3) :
    Calls Tryz.prog 84 #[plainV k t b z A n c] w (ValP w (pvOf k t b z l)) := by
  unfold plainV
  have HB := Lib.hid (below_alloc' (Below.refl w.heap.size w) (.cells #[.int .i64 k, .string t, .bool b, .int .i32 z, .slice A n c] 43))
  have HL := Lib.hid h
  clear h
  by_cases h0 : k = 0
  · subst h0
    go_enter Tryz.func84, Tryz.ntmps84
    go_wp2
    go_ret
    exact ⟨_, rfl, rfl, HB.out⟩
  have b0 : (k == 0) = false := by rw [beq_eq_false_iff_ne]; exact h0
  by_cases h1 : k = 1
  · subst h1
    go_enter Tryz.func84, Tryz.ntmps84
    go_wp2
    go_ret
    exact ⟨_, rfl, rfl, HB.out⟩
  have b1 : (k == 1) = false := by rw [beq_eq_false_iff_ne]; exact h1
  by_cases h2 : k = 2
  · subst h2
    go_enter Tryz.func84, Tryz.ntmps84
    go_wp2
    go_ret
    exact ⟨_, rfl, rfl, HB.out⟩
  have b2 : (k == 2) = false := by rw [beq_eq_false_iff_ne]; exact h2
  by_cases h3 : k = 3
  · subst h3
    obtain ⟨i0, hi, hz0, hz1, hz2⟩ := info_parts info_str
    have HO : Hid (World.ownsRow ((w.alloc (.cells #[.int .i64 3, .string t, .bool b, .int .i32 z, .slice A n c] 43)).alloc (.cells #[] 9)) w.heap.size 9 1 (.slice (some ⟨w.heap.size + 1, 0, none⟩) 0 0) 0 []) := Lib.hid (by
      have := own_base (own_empty (w.alloc (.cells #[.int .i64 3, .string t, .bool b, .int .i32 z, .slice A n c] 43)) 9 1) HB.out.size
      rwa [show (w.alloc (.cells #[.int .i64 3, .string t, .bool b, .int .i32 z, .slice A n c] 43)).heap.size = w.heap.size + 1 from by simp] at this)
    have HBB := Lib.hid (below_alloc' HB.out (.cells #[] 9))
    have HL2 := Lib.hid (HL.out.below HBB.out (Nat.le_refl _))
    go_enter Tryz.func84, Tryz.ntmps84
    go_wp2_with (at_builtin; refine wpList_append_any _ rfl (.tmp 23) (.tmp 25) 23 rfl w.heap.size 9 i0 (.string ByteArray.empty) 1 16 Tryz.underlying23 hi hz0 hz1 hz2 rfl (by decide) (.slice (some ⟨w.heap.size + 1, 0, none⟩) 0 0) 0 [] rfl HO.out A n c (strs l) rfl HL2.out (strs_one l) (by unfold maxLen; omega) (by omega) HBB.out.size ?_; intro v3 w3 hown hg hat; rw [Nat.zero_add] at hown; have HO3 := Lib.hid hown; have HAT := Lib.hid hat; have HG := Lib.hid hg; clear hown hg hat)
    obtain ⟨A', c', hv, _, hr⟩ := own_form HO3.out
    have hat := HAT.out
    rw [hv] at hat
    have hbl := fun a (ha : A' = some a) => HO3.out.lt a.block (by rw [hv, ha]; rfl)
    have hs : ∃ a, A' = some a := by
      cases A' with
      | some a => exact ⟨a, rfl⟩
      | none => rcases hat with h | h <;> simp [Value.ownBlock] at h
    obtain ⟨a', rfl⟩ := hs
    have HBL := Lib.hid (hbl a' rfl)
    clear hbl
    have HR := Lib.hid hr
    have HB3 := Lib.hid (HBB.out.grown HG.out HBB.out.size (by intro k hk; simp [Value.ownBlock] at hk; omega))
    clear hr hat HAT
    subst hv
    go_wp2
    go_ret
    exact ⟨_, rfl, ⟨_, _, _, rfl, HO3.out⟩, HB3.out⟩
  exact absurd (by omega) h3
end Go.Proofs.YtapjbdigpleekaaGreat.Mp

/- impl.plain of a plain value: its five data; the conditions are on sizes and the range of a number. -/
set_option linter.unusedVariables false
set_option linter.unusedSimpArgs false
namespace Go.Proofs.YtapjbdigpleekaaGreat.Mp
open Go.RowKit Go.Proofs.YtapjbdigpleekaaGreat.K Go.Proofs.YtapjbdigpleekaaGreat.Cl
/-- What a plain value can be: a number of 32 bits, a list that can be held. -/
def PV.ok : PV → Prop
  | .num z => -2147483648 ≤ z ∧ z ≤ 2147483647
  | .lst l => l.length ≤ 100000
  | _ => True
/-- The five data of a plain value. -/
def PlV (w : World) (v : Value) : PV → Prop
  | .txt s => v = plainV 0 s false 0 none 0 0
  | .tru b => v = plainV 1 ByteArray.empty b 0 none 0 0
  | .num z => v = plainV 2 ByteArray.empty false z none 0 0
  | .lst l => ∃ A n c, v = plainV 3 ByteArray.empty false 0 A n c ∧ w.ownsRow 0 9 1 (.slice A n c) n (strs l)
def PlP (w : World) (pv : PV) (e : Ending) (w' : World) : Prop := ∃ v, e = .returned v ∧ PlV w' v pv ∧ Below w.heap.size w w'
theorem tb_text (s : ByteArray) (W : World) : Sem.run Tryz.prog (Instr.typeAssert (.iface 9 (.string s)) 20 9 true) W = .ok (.tuple #[.string s, .bool true]) W := by kernel_rfl
theorem tb_b1 (b : Bool) (W : World) : Sem.run Tryz.prog (Instr.typeAssert (.iface 4 (.bool b)) 20 9 true) W = .ok (.tuple #[.string ByteArray.empty, .bool false]) W := by kernel_rfl
theorem tb_b2 (b : Bool) (W : World) : Sem.run Tryz.prog (Instr.typeAssert (.iface 4 (.bool b)) 20 4 true) W = .ok (.tuple #[.bool b, .bool true]) W := by kernel_rfl
theorem tb_f1 (f : Value) (W : World) : Sem.run Tryz.prog (Instr.typeAssert (.iface 174 f) 20 9 true) W = .ok (.tuple #[.string ByteArray.empty, .bool false]) W := by kernel_rfl
theorem tb_f2 (f : Value) (W : World) : Sem.run Tryz.prog (Instr.typeAssert (.iface 174 f) 20 4 true) W = .ok (.tuple #[.bool false, .bool false]) W := by kernel_rfl
theorem tb_f3 (f : Value) (W : World) : Sem.run Tryz.prog (Instr.typeAssert (.iface 174 f) 20 174 true) W = .ok (.tuple #[f, .bool true]) W := by kernel_rfl
theorem tb_l1 (A : Option Addr) (n c : Nat) (W : World) : Sem.run Tryz.prog (Instr.typeAssert (.iface 23 (.slice A n c)) 20 9 true) W = .ok (.tuple #[.string ByteArray.empty, .bool false]) W := by kernel_rfl
theorem tb_l2 (A : Option Addr) (n c : Nat) (W : World) : Sem.run Tryz.prog (Instr.typeAssert (.iface 23 (.slice A n c)) 20 4 true) W = .ok (.tuple #[.bool false, .bool false]) W := by kernel_rfl
theorem tb_l3 (A : Option Addr) (n c : Nat) (W : World) : Sem.run Tryz.prog (Instr.typeAssert (.iface 23 (.slice A n c)) 20 174 true) W = .ok (.tuple #[.float .f64 0, .bool false]) W := by kernel_rfl
theorem tb_l4 (A : Option Addr) (n c : Nat) (W : World) : Sem.run Tryz.prog (Instr.typeAssert (.iface 23 (.slice A n c)) 20 23 true) W = .ok (.tuple #[.slice A n c, .bool true]) W := by kernel_rfl
theorem plain_txt (w : World) (s : ByteArray) : Calls Tryz.prog 104 #[.iface 9 (.string s)] w (PlP w (.txt s)) := by
  have hta := tb_text s
  have HB := Lib.hid (fun cs => below_alloc' (Below.refl w.heap.size w) (.cells cs 43))
  go_enter Tryz.func104, Tryz.ntmps104
  go_wp2
  exact bodyPost_ret (results_cell_row rfl _ _ w.heap.size 43 #[.int .i64 0, .string s, .bool false, .int .i32 0, .slice none 0 0] (0, 0) _ rfl (heap_alloc_new w _) Tryz.underlying43 rfl (by kernel_rfl)) rfl ⟨_, rfl, rfl, below_alloc' (Below.refl w.heap.size w) _⟩
theorem plain_tru (w : World) (b : Bool) : Calls Tryz.prog 104 #[.iface 4 (.bool b)] w (PlP w (.tru b)) := by
  have hta1 := tb_b1 b
  have hta2 := tb_b2 b
  have HB := Lib.hid (fun cs => below_alloc' (Below.refl w.heap.size w) (.cells cs 43))
  go_enter Tryz.func104, Tryz.ntmps104
  go_wp2
  exact bodyPost_ret (results_cell_row rfl _ _ w.heap.size 43 #[.int .i64 1, .string ByteArray.empty, .bool b, .int .i32 0, .slice none 0 0] (0, 0) _ rfl (heap_alloc_new w _) Tryz.underlying43 rfl (by kernel_rfl)) rfl ⟨_, rfl, rfl, below_alloc' (Below.refl w.heap.size w) _⟩
theorem plain_num (w : World) (z : Int) (h1 : -2147483648 ≤ z) (h2 : z ≤ 2147483647) : Calls Tryz.prog 104 #[.iface 174 (.float .f64 (floatOfInt .f64 z))] w (PlP w (.num z)) := by
  obtain ⟨F, hF⟩ : ∃ F, F = floatOfInt .f64 z := ⟨_, rfl⟩
  have hcv := fun W : World => run_convert_float_int (P := Tryz.prog) W 174 21 .f64 .i32 F z (by kernel_rfl) (by kernel_rfl) (by rw [hF]; exact float_back z h1 h2)
  have HF := Lib.hid hF
  rw [← hF]
  clear hF
  have hta1 := tb_f1 (.float .f64 F)
  have hta2 := tb_f2 (.float .f64 F)
  have hta3 := tb_f3 (.float .f64 F)
  have HB := Lib.hid (fun cs => below_alloc' (Below.refl w.heap.size w) (.cells cs 43))
  go_enter Tryz.func104, Tryz.ntmps104
  go_wp2
  exact bodyPost_ret (results_cell_row rfl _ _ w.heap.size 43 #[.int .i64 2, .string ByteArray.empty, .bool false, .int .i32 z, .slice none 0 0] (0, 0) _ rfl (heap_alloc_new w _) Tryz.underlying43 rfl (by kernel_rfl)) rfl ⟨_, rfl, rfl, below_alloc' (Below.refl w.heap.size w) _⟩
def CloneO (w : World) (n : Nat) (l : List ByteArray) (e : Ending) (w' : World) : Prop := ∃ v, e = .returned v ∧ w'.ownsRow w.heap.size 9 1 v n (strs l) ∧ Below w.heap.size w w'
set_option maxHeartbeats 400000 in
theorem SCloneO_calls (w : World) (ad : Addr) (l : List ByteArray) (n c : Nat) (h : SL w (some ad) n l) (hn : n ≤ 100000) :
    Calls Tryz.prog 50 #[.slice (some ad) n c] w (CloneO w n l) := by
  obtain ⟨i0, hi, hz0, hz1, hz2⟩ := info_parts info_str
  have hnil := fun W : World => Lib.run_eql_slice_nil (P := Tryz.prog) W 23 9 (some ad) n c 0 0 Tryz.underlying23
  go_enter Tryz.func50, Tryz.ntmps50
  go_wp2_with (first
    | (at_builtin; refine wpList_append_any _ rfl (.tmp 5) (.tmp 6) 23 rfl w.heap.size 9 i0 (.string ByteArray.empty) 1 16 Tryz.underlying23 hi hz0 hz1 hz2 rfl (by decide) _ 0 [] rfl (own_empty w 9 1) (some ad) n c (strs l) rfl ?hr (strs_one l) ?h63 ?hb ?hbase ?_))
  case hr => exact h.below ((Below.refl w.heap.size w).alloc (Nat.le_refl _) _) (Nat.le_refl _)
  case h63 => unfold maxLen; omega
  case hb => omega
  case hbase => simp
  · intro v' w1 hown hg hat
    go_wp2
    go_ret
    exact ⟨_, rfl, hown, ((Below.refl w.heap.size w).alloc (Nat.le_refl _) _).grown hg (by simp) (by intro k hk; simp [Value.ownBlock] at hk; omega)⟩
theorem st_at {P : Program} {ops : Array Oper} {rest : List Oper} {d : Option Tmp} {ty type : TypeId} {pos : String} {after : Array Edge} {guard : Option (Nat × Bool)} {y : Operand} {a : Act} {w : World} {Q : Exit → Act → World → Prop} (x : Operand)
    (h : wpList P ops Q (⟨d, .store ty x y, type, pos, after, guard⟩ :: rest) a w) : wpList P ops Q (⟨d, .store ty x y, type, pos, after, guard⟩ :: rest) a w := h
theorem infoPl : (Tryz.prog.info? 43).map (·.size) = some 5 := by kernel_rfl
set_option maxHeartbeats 1000000 in
theorem plain_lst (w : World) (ad : Addr) (l : List ByteArray) (n c : Nat) (h : SL w (some ad) n l) (hn : n ≤ 100000) :
    Calls Tryz.prog 104 #[.iface 23 (.slice (some ad) n c)] w (PlP w (.lst l)) := by
  have hta1 := tb_l1 (some ad) n c
  have hta2 := tb_l2 (some ad) n c
  have hta3 := tb_l3 (some ad) n c
  have hta4 := tb_l4 (some ad) n c
  have hB1 := below_alloc' (Below.refl w.heap.size w) (.cells #[.int .i64 0, .string ⟨#[]⟩, .bool false, .int .i32 0, .slice none 0 0] 43)
  have hK := Blk.new w 43 #[.int .i64 0, .string ⟨#[]⟩, .bool false, .int .i32 0, .slice none 0 0]
  have HC := Lib.hid (SCloneO_calls _ ad l n c (h.below hB1 (Nat.le_refl _)) hn)
  have HB1 := Lib.hid hB1
  have HK := Lib.hid hK
  clear hB1 hK h
  go_enter Tryz.func104, Tryz.ntmps104
  go_wp2_with (first
    | (go_at_call 50; go_loud ((with_reducible refine Calls.mono HC.out ?_); rintro e w2 ⟨v2, rfl, hown, hB2⟩; have HB2 := Lib.hid (K.below_then HB1.out hB2); have HK2 := Lib.hid (HK.out.below hB2 HK.out.lt); obtain ⟨A3, c3, hv3, _, _⟩ := own_form hown; subst hv3; have HO := Lib.hid hown; clear hown hB2))
    | ((with_reducible refine st_at (.tmp 2) ?_); go_loud (refine wpList_store_blk rfl _ _ _ rfl w.heap.size rfl #[.int .i64 3, .string ⟨#[]⟩, .bool false, .int .i32 0, .slice A3 n c3] _ rfl 43 HK2.out infoPl rfl (by first | kernel_rfl | simp [Value.oneCell']) ?_; intro w7 hb7 hg7 hs7; have H7 := Lib.hid (And.intro hb7 hg7); clear hb7 hg7 hs7)))
  have hk := HK2.out
  have ho := HO.out
  have hlt := HK.out.lt
  have hne : ∀ a, A3 = some a → a.block ≠ w.heap.size := fun a ha => by
    have := ho.lt a.block (by rw [ha]; rfl)
    simp at this
    omega
  have hsl : w7.ownsRow 0 9 1 (.slice A3 n c3) n (strs l) := own_base (ho.kept H7.out.2 (by
    rcases A3 with _ | a
    · exact .inl rfl
    · exact .inr (fun e => hne a rfl (by simpa [Value.ownBlock] using e)))) (Nat.zero_le _)
  exact bodyPost_ret (results_cell_row rfl _ _ w.heap.size 43 #[.int .i64 3, .string ⟨#[]⟩, .bool false, .int .i32 0, .slice A3 n c3] (0, 0) _ rfl H7.out.1 Tryz.underlying43 rfl (by kernel_rfl)) rfl ⟨_, rfl, ⟨_, _, _, rfl, hsl⟩, HB2.out.grown H7.out.2 HB2.out.size (by intro k hk; cases hk; exact Nat.le_refl _)⟩
theorem plain_calls (w : World) (B : Nat) (v : Value) (pv : PV) (h : PVal w B v pv) (hok : pv.ok) : Calls Tryz.prog 104 #[v] w (PlP w pv) := by
  cases pv with
  | txt s => rw [show v = _ from h]; exact plain_txt w s
  | tru b => rw [show v = _ from h]; exact plain_tru w b
  | num z => rw [show v = _ from h]; exact plain_num w z hok.1 hok.2
  | lst l =>
    obtain ⟨a, n, c, rfl, ho⟩ := h
    have hs : SL w (some a) n l := Reads.of_own ho
    exact plain_lst w a l n c hs (by rw [hs.len]; exact hok)
end Go.Proofs.YtapjbdigpleekaaGreat.Mp

/- A map with texts as keys that holds a list of pairs: an assignment of a new key, a look, a range; the conditions are on what lies in memory. -/
set_option linter.unusedVariables false
set_option linter.unusedSimpArgs false
namespace Go.Proofs.YtapjbdigpleekaaGreat.Mp
open Go.RowKit Go.Proofs.YtapjbdigpleekaaGreat.K
open Go.MapKept
def pr (p : ByteArray × Value) : Value × Value := (.string p.1, p.2)
def MapL (w : World) (m : Nat) (L : List (ByteArray × Value)) : Prop := ∃ es c, w.heap[m]? = some (.map es c) ∧ Stamped es c ∧ es.toList.map (fun e => (e.key, e.val)) = L.map pr
theorem MapL.lt {w : World} {m : Nat} {L : List (ByteArray × Value)} (h : MapL w m L) : m < w.heap.size := by
  obtain ⟨es, c, h, _⟩ := h
  exact (Array.getElem?_eq_some_iff.1 h).1
theorem MapL.grown {w w' : World} {m : Nat} {L : List (ByteArray × Value)} {r : Option Nat} (h : MapL w m L) (hg : w.grownBy w' r) (hne : some m ≠ r) : MapL w' m L := by
  have hl := h.lt
  obtain ⟨es, c, h, hk⟩ := h
  exact ⟨es, c, (hg.block m hl hne).trans h, hk⟩
theorem MapL.below {w w' : World} {m B : Nat} {L : List (ByteArray × Value)} (h : MapL w m L) (hb : Below B w w') (hB : m < B) : MapL w' m L := by
  obtain ⟨es, c, h, hk⟩ := h
  exact ⟨es, c, (hb.block m hB).trans h, hk⟩
theorem MapL.ne {w : World} {m g : Nat} {L : List (ByteArray × Value)} {T : TypeId} {cs : Array Value} (h : MapL w m L) (hb : Blk w g T cs) : g ≠ m := by
  rintro rfl
  obtain ⟨es, c, h, _⟩ := h
  unfold Blk at hb
  rw [hb] at h
  cases h
theorem MapL.new (w : World) : MapL (w.alloc (.map #[] 0)) w.heap.size [] := ⟨_, _, (heap_alloc w _).1, stamped_empty 0, rfl⟩
theorem MapL.mem {es : Array MapEntry} {L : List (ByteArray × Value)} (h : es.toList.map (fun e => (e.key, e.val)) = L.map pr) (x : MapEntry) (hx : x ∈ es.toList) : ∃ p ∈ L, x.key = .string p.1 ∧ x.val = p.2 := by
  have : (x.key, x.val) ∈ L.map pr := by rw [← h]; exact List.mem_map.2 ⟨x, hx, rfl⟩
  obtain ⟨p, hp, e⟩ := List.mem_map.1 this
  injection e with e1 e2
  exact ⟨p, hp, e1.symm, e2.symm⟩
theorem MapL.keys {es : Array MapEntry} {L : List (ByteArray × Value)} (h : es.toList.map (fun e => (e.key, e.val)) = L.map pr) : ∀ x ∈ es.toList, IsKey .string x.key := by
  intro x hx
  obtain ⟨p, _, e, _⟩ := MapL.mem h x hx
  rw [e]; trivial
def lookL (L : List (ByteArray × Value)) (s : ByteArray) : Option Value := (L.find? fun p => decide (p.1 = s)).map (·.2)
theorem findNow_list (s : ByteArray) : ∀ (l : List MapEntry) (L : List (ByteArray × Value)) (i : Nat), l.map (fun e => (e.key, e.val)) = L.map pr →
    (lookL L s = none ∧ Instr.findNow .string (.string s) l i = some none) ∨ ∃ j v, lookL L s = some v ∧ Instr.findNow .string (.string s) l i = some (some (j, v))
  | [], [], i, _ => .inl ⟨rfl, rfl⟩
  | [], _ :: _, _, h => by cases h
  | _ :: _, [], _, h => by cases h
  | e :: l, p :: L, i, h => by
    injection h with h1 h2
    injection h1 with hk hv
    obtain ⟨r, hr, hiff⟩ := sameNow_of_keys (d := .string) (a := .string s) (b := .string p.1) trivial trivial
    rw [← hk] at hr
    cases r with
    | true =>
      have e1 : p.1 = s := by have := hiff.1 rfl; injection this with this; exact this.symm
      exact .inr ⟨i, p.2, by simp [lookL, e1], by simp [Instr.findNow, hr, hv]⟩
    | false =>
      have e1 : p.1 ≠ s := fun q => by have := hiff.2 (by rw [q]); cases this
      rcases findNow_list s l L (i + 1) h2 with ⟨a, b⟩ | ⟨j, v, a, b⟩
      · exact .inl ⟨by simpa [lookL, e1] using a, by simp [Instr.findNow, hr, b]⟩
      · exact .inr ⟨j, v, by simpa [lookL, e1] using a, by simp [Instr.findNow, hr, b]⟩
theorem lookL_none {L : List (ByteArray × Value)} {s : ByteArray} : lookL L s = none ↔ ∀ p ∈ L, p.1 ≠ s := by simp [lookL]
section
variable {P : Program} {mty kt et : TypeId}
theorem run_add (hm : P.underlying mty = some (.map kt et)) (hd : P.underlying kt = some .string) (W : World) (m : Nat) (L : List (ByteArray × Value)) (h : MapL W m L) (s : ByteArray) (v : Value) (hn : ∀ p ∈ L, p.1 ≠ s) :
    ∃ W', Sem.run P (Instr.mapUpdate mty (.map (some m)) (.string s) v) W = .ok () W' ∧ MapL W' m (L ++ [(s, v)]) ∧ W.grownBy W' (some m) := by
  obtain ⟨es, c, hb, hst, hl⟩ := h
  have hk : IsKey .string (.string s) := trivial
  obtain ⟨r, hr⟩ : ∃ r, Sem.run P (Instr.mapUpdate mty (.map (some m)) (.string s) v) W = r := ⟨_, rfl⟩
  have hr0 := hr
  rcases findNow_list s es.toList L 0 hl with ⟨_, h1⟩ | ⟨j, e, h1, _⟩
  · simp [Instr.mapUpdate, run_underlying hm, MapKept.run_getObj_map hb, run_checkKey hd hk, run_findKey hd h1, MapKept.run_setObj_map _ hb, Result.andThen] at hr
    subst hr
    refine ⟨_, hr0, ⟨_, _, (heap_set hb).1, stamped_push hst ?_, ?_⟩, ⟨rfl, rfl, rfl, by simp, fun k _ hne => (heap_set hb).2 k (fun e => hne (by rw [e]))⟩⟩
    · intro x hx e
      obtain ⟨p, hp, e1, _⟩ := MapL.mem hl x hx
      rw [e1] at e
      injection e with e
      exact hn p hp e
    · simp [hl, pr]
  · rw [lookL_none.2 hn] at h1; cases h1
theorem run_look (hm : P.underlying mty = some (.map kt et)) (hd : P.underlying kt = some .string) (W : World) (m : Nat) (L : List (ByteArray × Value)) (h : MapL W m L) (s : ByteArray) (z : Value) (hz : (zeroValue et).run P W = .ok z W) :
    Sem.run P (Instr.lookup mty (.map (some m)) (.string s) true) W = .ok (.tuple #[(lookL L s).getD z, .bool (lookL L s).isSome]) W := by
  obtain ⟨es, c, hb, hst, hl⟩ := h
  have hk : IsKey .string (.string s) := trivial
  rcases findNow_list s es.toList L 0 hl with ⟨h0, h1⟩ | ⟨j, e, h0, h1⟩
  · rw [h0]
    simp [Instr.lookup, run_underlying hm, MapKept.run_getObj_map hb, run_checkKey hd hk, run_findKey hd h1, hz, Result.andThen]
  · rw [h0]
    simp [Instr.lookup, run_underlying hm, MapKept.run_getObj_map hb, run_checkKey hd hk, run_findKey hd h1, Result.andThen]
end
open Go.ChangeMaps (setBlock)
/-- Block m is a map that holds L; block r goes over it; the entries of ds have come. -/
def RangL (W : World) (m r : Nat) (L ds : List (ByteArray × Value)) : Prop :=
  ∃ es c s seen c0, W.heap[m]? = some (.map es c) ∧ Stamped es c ∧ es.toList.map (fun e => (e.key, e.val)) = L.map pr ∧ W.heap[r]? = some (.mapIter (some m) s seen c0) ∧ (∀ x ∈ es.toList, x.born < s) ∧ s ≤ c0 ∧ s = c ∧ r ≠ m ∧
    (∀ e ∈ es.toList, e.born ∈ seen ↔ ∃ p ∈ ds, e.key = .string p.1) ∧ (∀ p ∈ ds, p ∈ L) ∧ (ds.map (·.1)).Nodup
section
variable {W W' : World} {m r : Nat} {L ds : List (ByteArray × Value)}
theorem RangL.ltm (h : RangL W m r L ds) : m < W.heap.size := by
  obtain ⟨_, _, _, _, _, h, _⟩ := h
  exact (Array.getElem?_eq_some_iff.1 h).1
theorem RangL.ltr (h : RangL W m r L ds) : r < W.heap.size := by
  obtain ⟨_, _, _, _, _, _, _, _, h, _⟩ := h
  exact (Array.getElem?_eq_some_iff.1 h).1
theorem RangL.sub (h : RangL W m r L ds) : (∀ p ∈ ds, p ∈ L) ∧ (ds.map (·.1)).Nodup := by
  obtain ⟨_, _, _, _, _, _, _, _, _, _, _, _, _, _, h1, h2⟩ := h
  exact ⟨h1, h2⟩
theorem RangL.grown (h : RangL W m r L ds) {b : Option Nat} (hg : W.grownBy W' b) (hm : some m ≠ b) (hr : some r ≠ b) : RangL W' m r L ds := by
  have h1 := h.ltm
  have h2 := h.ltr
  obtain ⟨es, c, s, seen, c0, a1, a2, a3, a4, rest⟩ := h
  exact ⟨es, c, s, seen, c0, (hg.block m h1 hm).trans a1, a2, a3, (hg.block r h2 hr).trans a4, rest⟩
theorem run_range {P : Program} {mty kt et : TypeId} (hm : P.underlying mty = some (.map kt et)) (W : World) (m : Nat) (L : List (ByteArray × Value)) (h : MapL W m L) :
    ∃ W', (Instr.range mty (.map (some m))).run P W = .ok (.pointer (some ⟨W.heap.size, 0, none⟩)) W' ∧ RangL W' m W.heap.size L [] ∧ W.grownBy W' none ∧ W'.heap.size = W.heap.size + 1 := by
  have hlt := h.lt
  obtain ⟨es, c, hb, hst, hl⟩ := h
  refine ⟨_, run_range_map W mty kt et m es c hm hb, ⟨es, c, c, #[], c, ((MapKept.heap_alloc W _).2 m hlt).trans hb, hst, hl, (MapKept.heap_alloc W _).1, hst.1, Nat.le_refl _, rfl, by omega, ?_, by simp, by simp⟩, World.grownBy_alloc W _ none, by simp⟩
  intro e _
  simp
theorem RangL.next {P : Program} (h : RangL W m r L ds) (ty : TypeId) (hn : (L.map (·.1)).Nodup) :
    ((∀ p ∈ L, p ∈ ds) ∧ (Instr.next (.pointer (some ⟨r, 0, none⟩)) false ty).run P W = .ok (.tuple #[.bool false]) W) ∨
    ∃ p ∈ L, (∀ q ∈ ds, q.1 ≠ p.1) ∧ ∃ W', (Instr.next (.pointer (some ⟨r, 0, none⟩)) false ty).run P W = .ok (.tuple #[.bool true, .string p.1, p.2]) W' ∧ RangL W' m r L (ds ++ [p]) ∧ W.grownBy W' (some r) ∧
      (Instr.entry (.pointer (some ⟨r, 0, none⟩))).run P W' = .ok (.tuple #[.string p.1, p.2]) W' := by
  have hltr := h.ltr
  obtain ⟨es, c, s, seen, c0, a1, a2, a3, a4, a5, a6, a7, a8, a9, a10, a11⟩ := h
  have hnb : (es.toList.map (·.born)).Nodup := a2.2.1
  rcases run_next_at (P := P) W ty r m s c0 seen es c a4 a1 a5 a6 with ⟨h0, hr⟩ | ⟨e, he, w1, hw1, hr⟩
  · refine .inl ⟨fun p hp => ?_, hr⟩
    have : pr p ∈ es.toList.map (fun e => (e.key, e.val)) := by rw [a3]; exact List.mem_map_of_mem hp
    obtain ⟨x, hx, ex⟩ := List.mem_map.1 this
    have hs : x.born ∈ seen := by
      refine Classical.byContradiction fun hc => ?_
      have : x ∈ (leftOf es seen).toList := by simp [leftOf]; exact ⟨by simpa using hx, hc⟩
      rw [List.length_eq_zero_iff.1 (show (leftOf es seen).toList.length = 0 by simpa using h0)] at this
      cases this
    obtain ⟨q, hq, eq⟩ := (a9 x hx).1 hs
    injection ex with e1 e2
    rw [e1] at eq
    injection eq with eq
    have hqL := a10 q hq
    have : q = p := by
      obtain ⟨i, hi, ei⟩ := List.getElem_of_mem hqL
      obtain ⟨j, hj, ej⟩ := List.getElem_of_mem hp
      have hij : i = j := (List.getElem_inj (xs := L.map (·.1)) (h₀ := by simpa using hi) (h₁ := by simpa using hj) hn).1 (by simp [ei, ej, eq])
      subst hij
      rw [← ei, ← ej]
    rw [← this]; exact hq
  · have hee : e ∈ es.toList ∧ e.born ∉ seen := by simpa [leftOf] using he
    obtain ⟨p, hp, ek, ev⟩ := MapL.mem a3 e hee.1
    have hlr : r < w1.heap.size := by rcases hw1 with rfl | rfl <;> exact hltr
    have hb1 : w1.heap[m]? = some (.map es c) := by rcases hw1 with rfl | rfl <;> exact a1
    have hrr : (setBlock w1 r (.mapIter (some m) s (seen.push e.born) c)).heap[r]? = some (.mapIter (some m) s (seen.push e.born) c) := by
      simp [setBlock, hlr]
    have hmm : (setBlock w1 r (.mapIter (some m) s (seen.push e.born) c)).heap[m]? = some (.map es c) := by
      simp [setBlock, Array.getElem?_setIfInBounds, a8, hb1]
    refine .inr ⟨p, hp, fun q hq eq => hee.2 ((a9 e hee.1).2 ⟨q, hq, by rw [ek, eq]⟩), _, by rw [hr, ek, ev], ⟨es, c, s, seen.push e.born, c, hmm, a2, a3, hrr, a5, by omega, a7, a8, ?_, ?_, ?_⟩, ?_, ?_⟩
    · intro x hx
      simp only [Array.mem_push, a9 x hx, List.mem_append, List.mem_singleton]
      constructor
      · rintro (⟨q, hq, eq⟩ | hb)
        · exact ⟨q, .inl hq, eq⟩
        · obtain ⟨i, hi, ei⟩ := List.getElem_of_mem hx
          obtain ⟨j, hj, ej⟩ := List.getElem_of_mem hee.1
          have hij : i = j := (List.getElem_inj (xs := es.toList.map (·.born)) (h₀ := by simpa using hi) (h₁ := by simpa using hj) hnb).1 (by simp only [List.getElem_map, ei, ej, hb])
          subst hij
          exact ⟨p, .inr rfl, by rw [← ei, ej, ek]⟩
      · rintro ⟨q, hq | rfl, eq⟩
        · exact .inl ⟨q, hq, eq⟩
        · right
          obtain ⟨i, hi, ei⟩ := List.getElem_of_mem hx
          obtain ⟨j, hj, ej⟩ := List.getElem_of_mem hee.1
          have hkn : (es.toList.map (·.key)).Nodup := by
            have e3 : es.toList.map (·.key) = L.map (fun p => Value.string p.1) := by
              have := congrArg (List.map Prod.fst) a3
              simpa [List.map_map, Function.comp_def, pr] using this
            rw [e3]
            rw [List.nodup_iff_pairwise_ne, List.pairwise_map] at hn ⊢
            exact hn.imp (fun hne he => hne (by injection he))
          have hij : i = j := (List.getElem_inj (xs := es.toList.map (·.key)) (h₀ := by simpa using hi) (h₁ := by simpa using hj) hkn).1 (by simp only [List.getElem_map, ei, ej, eq, ek])
          subst hij
          rw [← ei, ej]
    · intro q hq
      rcases List.mem_append.1 hq with hq | hq
      · exact a10 q hq
      · rw [List.mem_singleton.1 hq]; exact hp
    · rw [List.map_append, List.nodup_append]
      refine ⟨a11, by simp, ?_⟩
      intro a ha b hb hab
      obtain ⟨q, hq, rfl⟩ := List.mem_map.1 ha
      rw [show b = p.1 by simpa using hb] at hab
      exact hee.2 ((a9 e hee.1).2 ⟨q, hq, by rw [ek, hab]⟩)
    · refine ⟨?_, ?_, ?_, ?_, ?_⟩
      · rcases hw1 with rfl | rfl <;> rfl
      · rcases hw1 with rfl | rfl <;> rfl
      · rcases hw1 with rfl | rfl <;> rfl
      · rcases hw1 with rfl | rfl <;> simp [setBlock]
      · intro k hk hne
        have : r ≠ k := fun h => hne (by rw [h])
        have e1 : w1.heap[k]? = W.heap[k]? := by rcases hw1 with rfl | rfl <;> rfl
        rw [← e1]
        simp [setBlock, Array.getElem?_setIfInBounds, this]
    · rw [run_entry_at _ r m s seen es c e hrr hmm hee.1 hnb, ek, ev]
theorem filter_less {α : Type} (p q : α → Bool) : ∀ (L : List α), (∀ x ∈ L, q x = true → p x = true) → (∃ a ∈ L, p a = true ∧ q a = false) → (L.filter q).length < (L.filter p).length
  | [], _, ⟨_, h, _⟩ => by cases h
  | x :: L, hi, ⟨a, ha, h1, h2⟩ => by
    have hle : (L.filter q).length ≤ (L.filter p).length := by
      clear ha h1 h2
      induction L with
      | nil => simp
      | cons y L ih =>
        have hy := hi y (by simp)
        have := ih (fun z hz => hi z (by simp at hz ⊢; rcases hz with h | h <;> simp [h]))
        cases hq : q y <;> cases hp : p y <;> simp [List.filter_cons, hq, hp] <;> first | omega | (rw [hy hq] at hp; cases hp)
    rcases List.mem_cons.1 ha with rfl | ha
    · simp [List.filter_cons, h1, h2]; omega
    · have ih := filter_less p q L (fun z hz => hi z (by simp [hz])) ⟨a, ha, h1, h2⟩
      have hx := hi x (by simp)
      cases hq : q x <;> cases hp : p x <;> simp [List.filter_cons, hq, hp] <;> first | omega | (rw [hx hq] at hp; cases hp)
/-- How many are still to come. -/
def togo (L ds : List (ByteArray × Value)) : Nat := (L.filter fun p => !decide (p.1.data ∈ ds.map (·.1.data))).length
theorem togo_less {p : ByteArray × Value} (hp : p ∈ L) (hn : ∀ q ∈ ds, q.1 ≠ p.1) : togo L (ds ++ [p]) < togo L ds := by
  refine filter_less _ _ L (fun x _ hx => ?_) ⟨p, hp, ?_, ?_⟩
  · rw [Bool.not_eq_true', decide_eq_false_iff_not] at hx ⊢
    exact fun h => hx (by rw [List.map_append]; exact List.mem_append_left _ h)
  · rw [Bool.not_eq_true', decide_eq_false_iff_not]
    intro h
    obtain ⟨q, hq, e⟩ := List.mem_map.1 h
    exact hn q hq (ByteArray.ext e)
  · rw [Bool.not_eq_false', decide_eq_true_iff, List.map_append]
    exact List.mem_append_right _ (by simp)
theorem all_perm (hn : (L.map (·.1)).Nodup) (hd : (ds.map (·.1)).Nodup) (h1 : ∀ p ∈ ds, p ∈ L) (h2 : ∀ p ∈ L, p ∈ ds) : ds.Perm L := by
  refine (List.perm_ext_iff_of_nodup ?_ ?_).2 (fun a => ⟨h1 a, h2 a⟩)
  · rw [List.nodup_iff_pairwise_ne, List.pairwise_map] at hd
    rw [List.nodup_iff_pairwise_ne]
    exact hd.imp (fun h e => h (by rw [e]))
  · rw [List.nodup_iff_pairwise_ne, List.pairwise_map] at hn
    rw [List.nodup_iff_pairwise_ne]
    exact hn.imp (fun h e => h (by rw [e]))
end
/-- A pair with a name is put: in its place, or at the end. -/
def putG {α : Type} (n : ByteArray) (x : α) (L : List (ByteArray × α)) : List (ByteArray × α) :=
  if ∃ p ∈ L, p.1 = n then L.map (fun p => if p.1 = n then (n, x) else p) else L ++ [(n, x)]
theorem in_names {α : Type} {n : ByteArray} {L : List (ByteArray × α)} : (∃ p ∈ L, p.1 = n) ↔ n ∈ L.map (·.1) := by simp only [List.mem_map]
/-- All pairs but those with a name. -/
def dropG {α : Type} (n : ByteArray) (L : List (ByteArray × α)) : List (ByteArray × α) := L.filter (fun p => decide (p.1 ≠ n))
theorem putG_in {α : Type} {n : ByteArray} {L : List (ByteArray × α)} (h : n ∈ L.map (·.1)) (x : α) : putG n x L = L.map (fun p => if p.1 = n then (n, x) else p) := if_pos (in_names.2 h)
theorem putG_out {α : Type} {n : ByteArray} {L : List (ByteArray × α)} (h : n ∉ L.map (·.1)) (x : α) : putG n x L = L ++ [(n, x)] := if_neg (fun k => h (in_names.1 k))
theorem names_in {α : Type} {n : ByteArray} {x : α} {L : List (ByteArray × α)} (h : n ∈ L.map (·.1)) : (putG n x L).map (·.1) = L.map (·.1) := by
  rw [putG_in h, List.map_map]
  apply List.map_congr_left
  intro p _
  by_cases e : p.1 = n
  · simp [e]
  · simp [e]
theorem names_out {α : Type} {n : ByteArray} {x : α} {L : List (ByteArray × α)} (h : n ∉ L.map (·.1)) : (putG n x L).map (·.1) = L.map (·.1) ++ [n] := by rw [putG_out h]; simp
theorem nodup_putG {α : Type} {n : ByteArray} {x : α} {L : List (ByteArray × α)} (h : (L.map (·.1)).Nodup) : ((putG n x L).map (·.1)).Nodup := by
  by_cases hn : n ∈ L.map (·.1)
  · rw [names_in hn]; exact h
  · rw [names_out hn, List.nodup_append]
    exact ⟨h, by simp, fun a ha b hb e => hn (by rw [← List.mem_singleton.1 hb, ← e]; exact ha)⟩
theorem nodup_dropG {α : Type} {n : ByteArray} {L : List (ByteArray × α)} (h : (L.map (·.1)).Nodup) : ((dropG n L).map (·.1)).Nodup :=
  (List.filter_sublist.map _).nodup h
theorem putG_map {α β : Type} (f : α → β) (n : ByteArray) (x : α) (L : List (ByteArray × α)) : (putG n x L).map (fun p => (p.1, f p.2)) = putG n (f x) (L.map (fun p => (p.1, f p.2))) := by
  have e : (L.map (fun p => (p.1, f p.2))).map (·.1) = L.map (·.1) := by rw [List.map_map]; rfl
  by_cases h : n ∈ L.map (·.1)
  · rw [putG_in h, putG_in (by rw [e]; exact h), List.map_map, List.map_map]
    apply List.map_congr_left
    intro p _
    by_cases e : p.1 = n
    · simp [e]
    · simp [e]
  · rw [putG_out h, putG_out (by rw [e]; exact h)]; simp
theorem dropG_map {α β : Type} (f : α → β) (n : ByteArray) (L : List (ByteArray × α)) : (dropG n L).map (fun p => (p.1, f p.2)) = dropG n (L.map (fun p => (p.1, f p.2))) := by
  unfold dropG
  rw [List.filter_map]; rfl
theorem set_eq_map {α : Type} (n : ByteArray) (x : α) : ∀ (L : List (ByteArray × α)) (j : Nat), (L.map (·.1)).Nodup → (L[j]?).map (·.1) = some n → L.map (fun p => if p.1 = n then (n, x) else p) = L.set j (n, x)
  | [], j, _, h => by simp at h
  | p :: L, 0, hn, h => by
    have e : p.1 = n := by simpa using h
    rw [List.map_cons, List.set_cons_zero, if_pos e]
    congr 1
    rw [List.map_cons, List.nodup_cons] at hn
    conv => rhs; rw [← List.map_id L]
    apply List.map_congr_left
    intro q hq
    rw [if_neg (fun e2 => hn.1 (by rw [e, ← e2]; exact List.mem_map_of_mem hq))]; rfl
  | p :: L, j + 1, hn, h => by
    rw [List.map_cons, List.nodup_cons] at hn
    have h' : (L[j]?).map (·.1) = some n := by simpa using h
    have e : p.1 ≠ n := by
      intro e
      apply hn.1
      rw [e]
      cases hq : L[j]? with
      | none => rw [hq] at h'; cases h'
      | some q => rw [hq] at h'; injection h' with h'; rw [← h']; exact List.mem_map_of_mem (List.mem_of_getElem? hq)
    rw [List.map_cons, List.set_cons_succ, if_neg e, set_eq_map n x L j hn.2 h']
theorem erase_eq_drop {α : Type} (n : ByteArray) : ∀ (L : List (ByteArray × α)) (j : Nat), (L.map (·.1)).Nodup → (L[j]?).map (·.1) = some n → dropG n L = L.eraseIdx j
  | [], j, _, h => by simp at h
  | p :: L, 0, hn, h => by
    have e : p.1 = n := by simpa using h
    unfold dropG
    rw [List.filter_cons_of_neg (by simp [e]), List.eraseIdx_cons_zero]
    rw [List.map_cons, List.nodup_cons] at hn
    apply List.filter_eq_self.2
    intro q hq
    simp only [decide_eq_true_eq]
    exact fun e2 => hn.1 (by rw [e, ← e2]; exact List.mem_map_of_mem hq)
  | p :: L, j + 1, hn, h => by
    rw [List.map_cons, List.nodup_cons] at hn
    have h' : (L[j]?).map (·.1) = some n := by simpa using h
    have e : p.1 ≠ n := by
      intro e
      apply hn.1
      rw [e]
      cases hq : L[j]? with
      | none => rw [hq] at h'; cases h'
      | some q => rw [hq] at h'; injection h' with h'; rw [← h']; exact List.mem_map_of_mem (List.mem_of_getElem? hq)
    have ih := erase_eq_drop n L j hn.2 h'
    unfold dropG at ih ⊢
    rw [List.filter_cons_of_pos (by simp [e]), List.eraseIdx_cons_succ, ih]
theorem map_eraseIdx {α β : Type} (f : α → β) : ∀ (l : List α) (j : Nat), (l.eraseIdx j).map f = (l.map f).eraseIdx j
  | [], _ => by simp
  | x :: l, 0 => by simp
  | x :: l, j + 1 => by simp [map_eraseIdx f l j]
theorem drop_self {α : Type} {n : ByteArray} {L : List (ByteArray × α)} (h : n ∉ L.map (·.1)) : dropG n L = L := by
  unfold dropG
  apply List.filter_eq_self.2
  intro q hq
  simp only [decide_eq_true_eq]
  exact fun e2 => h (by rw [← e2]; exact List.mem_map_of_mem hq)
section
variable {P : Program} {mty kt et : TypeId} {W : World} {m : Nat} {L : List (ByteArray × Value)}
theorem key_at {es : Array MapEntry} (hl : es.toList.map (fun e => (e.key, e.val)) = L.map pr) {j : Nat} {e : MapEntry} {s : ByteArray} (h2 : es.toList[j]? = some e) (h3 : e.key = .string s) : (L[j]?).map (·.1) = some s := by
  have h := congrArg (fun l => l[j]?) hl
  simp only [List.getElem?_map, h2, Option.map_some] at h
  cases hq : L[j]? with
  | none => rw [hq] at h; cases h
  | some q =>
    rw [hq] at h
    injection h with h
    injection h with h1 h4
    rw [h3] at h1
    injection h1 with h1
    simp [h1]
theorem run_putL (hm : P.underlying mty = some (.map kt et)) (hd : P.underlying kt = some .string) (h : MapL W m L) (hn : (L.map (·.1)).Nodup) (s : ByteArray) (v : Value) :
    ∃ W', Sem.run P (Instr.mapUpdate mty (.map (some m)) (.string s) v) W = .ok () W' ∧ MapL W' m (putG s v L) ∧ W.grownBy W' (some m) := by
  by_cases hs : s ∈ L.map (·.1)
  · obtain ⟨es, c, hb, hst, hl⟩ := h
    have hk : IsKey .string (.string s) := trivial
    obtain ⟨r, hr⟩ : ∃ r, Sem.run P (Instr.mapUpdate mty (.map (some m)) (.string s) v) W = r := ⟨_, rfl⟩
    have hr0 := hr
    rcases findNow_spec hk es.toList 0 (MapL.keys hl) with ⟨h1, hne⟩ | ⟨j, e, h1, h2, h3⟩
    · exfalso
      obtain ⟨p, hp, e⟩ := List.mem_map.1 hs
      have : pr p ∈ es.toList.map (fun e => (e.key, e.val)) := by rw [hl]; exact List.mem_map_of_mem hp
      obtain ⟨x, hx, ex⟩ := List.mem_map.1 this
      injection ex with e1 e2
      exact hne x hx (by rw [e1, e])
    · have hj : es[j]? = some e := by simpa using h2
      simp [Instr.mapUpdate, run_underlying hm, MapKept.run_getObj_map hb, run_checkKey hd hk, run_findKey hd h1, hj, h3, MapKept.run_keyThatStays hk, MapKept.run_setObj_map _ hb, Result.andThen] at hr
      subst hr
      refine ⟨_, hr0, ⟨_, _, (heap_set hb).1, stamped_modify hst j _ (fun _ _ => rfl) (fun e' _ h' => by rw [hj] at h'; injection h' with h'; subst h'; exact h3.symm), ?_⟩, ⟨rfl, rfl, rfl, by simp, fun k _ hne => (heap_set hb).2 k (fun e => hne (by rw [e]))⟩⟩
      rw [putG_in hs, set_eq_map s v L j hn (key_at hl h2 h3), List.map_set, ← hl]
      rw [show (pr (s, v)) = (Value.string s, v) from rfl]
      apply List.ext_getElem?
      intro i
      simp only [List.getElem?_map, Array.toList_modify, List.getElem?_modify, List.getElem?_set, List.length_map]
      by_cases hi : j = i
      · subst hi
        have hlt : j < es.toList.length := (List.getElem?_eq_some_iff.1 h2).1
        simp [h2, hlt]
        exact (Array.getElem?_eq_some_iff.1 hj).1
      · simp [hi]
  · rw [putG_out hs]
    exact run_add hm hd W m L h s v (fun p hp e => hs (by rw [← e]; exact List.mem_map_of_mem hp))
theorem run_delL (hm : P.underlying mty = some (.map kt et)) (hd : P.underlying kt = some .string) (ty : TypeId) (h : MapL W m L) (hn : (L.map (·.1)).Nodup) (s : ByteArray) :
    ∃ W', Sem.run P (Builtin.delete_ #[mty, kt] ty #[.map (some m), .string s]) W = .ok (.tuple #[]) W' ∧ MapL W' m (dropG s L) ∧ W.grownBy W' (some m) := by
  obtain ⟨es, c, hb, hst, hl⟩ := h
  have hk : IsKey .string (.string s) := trivial
  obtain ⟨r, hr⟩ : ∃ r, Sem.run P (Builtin.delete_ #[mty, kt] ty #[.map (some m), .string s]) W = r := ⟨_, rfl⟩
  have hr0 := hr
  rcases findNow_spec hk es.toList 0 (MapL.keys hl) with ⟨h1, hne⟩ | ⟨j, e, h1, h2, h3⟩
  · simp [Builtin.delete_, run_underlying hm, MapKept.run_getObj_map hb, run_checkKey hd hk, run_findKey hd h1, MapKept.run_setObj_map _ hb, Result.andThen] at hr
    subst hr
    refine ⟨_, hr0, ⟨_, _, (heap_set hb).1, hst, ?_⟩, ⟨rfl, rfl, rfl, by simp, fun k _ hne => (heap_set hb).2 k (fun e => hne (by rw [e]))⟩⟩
    rw [drop_self]
    · exact hl
    · intro hs
      obtain ⟨p, hp, e⟩ := List.mem_map.1 hs
      have : pr p ∈ es.toList.map (fun e => (e.key, e.val)) := by rw [hl]; exact List.mem_map_of_mem hp
      obtain ⟨x, hx, ex⟩ := List.mem_map.1 this
      injection ex with e1 e2
      exact hne x hx (by rw [e1, e])
  · simp [Builtin.delete_, run_underlying hm, MapKept.run_getObj_map hb, run_checkKey hd hk, run_findKey hd h1, MapKept.run_setObj_map _ hb, Result.andThen] at hr
    subst hr
    refine ⟨_, hr0, ⟨_, _, (heap_set hb).1, stamped_erase hst _, ?_⟩, ⟨rfl, rfl, rfl, by simp, fun k _ hne => (heap_set hb).2 k (fun e => hne (by rw [e]))⟩⟩
    rw [erase_eq_drop s L j hn (key_at hl h2 h3)]
    unfold Array.eraseIdxIfInBounds
    rw [dif_pos (by simpa using (List.getElem?_eq_some_iff.1 h2).1), Array.toList_eraseIdx, map_eraseIdx, map_eraseIdx, hl]
theorem run_del_nil (hm : P.underlying mty = some (.map kt et)) (hd : P.underlying kt = some .string) (ty : TypeId) (s : ByteArray) :
    Sem.run P (Builtin.delete_ #[mty, kt] ty #[.map none, .string s]) W = .ok (.tuple #[]) W := by
  have hk : IsKey .string (.string s) := trivial
  simp [Builtin.delete_, run_underlying hm, run_checkKey hd hk, Result.andThen]
theorem run_look_nil (hm : P.underlying mty = some (.map kt et)) (hd : P.underlying kt = some .string) (s : ByteArray) (z : Value) (hz : (zeroValue et).run P W = .ok z W) :
    Sem.run P (Instr.lookup mty (.map none) (.string s) true) W = .ok (.tuple #[z, .bool false]) W := by
  have hk : IsKey .string (.string s) := trivial
  simp [Instr.lookup, run_underlying hm, run_checkKey hd hk, run_findKey (l := []) hd (show Instr.findNow .string (.string s) [] 0 = some none from rfl), hz, Result.andThen]
end
end Go.Proofs.YtapjbdigpleekaaGreat.Mp

/- What lies in memory of headers, or of a token: a list of names and plain values. Known names lie in cells of the block, others in a map. The tables were printed by gen_mphd.py. -/
set_option linter.unusedVariables false
set_option linter.unusedSimpArgs false
namespace Go.Proofs.YtapjbdigpleekaaGreat.Mp
open Go.RowKit Go.Proofs.YtapjbdigpleekaaGreat.K Go.Proofs.YtapjbdigpleekaaGreat.Cl
/-- The type of a kind's block: jws headers 0, jwe headers 1, a token 2, a token of OpenID 3. -/
def tyK (k : Nat) : Nat := match k with | 0 => 191 | 1 => 198 | 2 => 208 | _ => 205
/-- The place of the map's cell: the last one. -/
def mcK (k : Nat) : Nat := match k with | 0 => 10 | 1 => 13 | 2 => 5 | _ => 21
/-- Cells that stay as they are at first. -/
def restK (k : Nat) : List (Nat × Value) := match k with
  | 0 => [(0, .pointer none), (1, .pointer none)]
  | 1 => [(0, .slice none 0 0), (1, .slice none 0 0), (2, .pointer none), (3, .pointer none), (4, .pointer none)]
  | 2 => [(0, .int .u64 0)]
  | _ => [(0, .int .u64 0)]
/-- The known fields of a kind: name, place of the cell, shape (0 a text, 1 a truth value, 2 a list), in the order of their places. -/
def fldK (k : Nat) : List (ByteArray × Nat × Nat) := match k with
  | 0 => [(⟨#[99, 116, 121]⟩, 2, 0), (⟨#[99, 114, 105, 116]⟩, 3, 2), (⟨#[106, 107, 117]⟩, 4, 0), (⟨#[107, 105, 100]⟩, 5, 0), (⟨#[116, 121, 112]⟩, 6, 0), (⟨#[120, 53, 116]⟩, 7, 0), (⟨#[120, 53, 116, 35, 83, 50, 53, 54]⟩, 8, 0), (⟨#[120, 53, 117]⟩, 9, 0)]
  | 1 => [(⟨#[99, 116, 121]⟩, 5, 0), (⟨#[99, 114, 105, 116]⟩, 6, 2), (⟨#[106, 107, 117]⟩, 7, 0), (⟨#[107, 105, 100]⟩, 8, 0), (⟨#[116, 121, 112]⟩, 9, 0), (⟨#[120, 53, 116]⟩, 10, 0), (⟨#[120, 53, 116, 35, 83, 50, 53, 54]⟩, 11, 0), (⟨#[120, 53, 117]⟩, 12, 0)]
  | 2 => [(⟨#[97, 117, 100]⟩, 1, 2), (⟨#[105, 115, 115]⟩, 2, 0), (⟨#[106, 116, 105]⟩, 3, 0), (⟨#[115, 117, 98]⟩, 4, 0)]
  | _ => [(⟨#[97, 117, 100]⟩, 1, 2), (⟨#[101, 109, 97, 105, 108]⟩, 2, 0), (⟨#[101, 109, 97, 105, 108, 95, 118, 101, 114, 105, 102, 105, 101, 100]⟩, 3, 1), (⟨#[102, 97, 109, 105, 108, 121, 95, 110, 97, 109, 101]⟩, 4, 0), (⟨#[103, 101, 110, 100, 101, 114]⟩, 5, 0), (⟨#[103, 105, 118, 101, 110, 95, 110, 97, 109, 101]⟩, 6, 0), (⟨#[105, 115, 115]⟩, 7, 0), (⟨#[106, 116, 105]⟩, 8, 0), (⟨#[108, 111, 99, 97, 108, 101]⟩, 9, 0), (⟨#[109, 105, 100, 100, 108, 101, 95, 110, 97, 109, 101]⟩, 10, 0), (⟨#[110, 97, 109, 101]⟩, 11, 0), (⟨#[110, 105, 99, 107, 110, 97, 109, 101]⟩, 12, 0), (⟨#[112, 104, 111, 110, 101, 95, 110, 117, 109, 98, 101, 114]⟩, 13, 0), (⟨#[112, 104, 111, 110, 101, 95, 110, 117, 109, 98, 101, 114, 95, 118, 101, 114, 105, 102, 105, 101, 100]⟩, 14, 1), (⟨#[112, 105, 99, 116, 117, 114, 101]⟩, 15, 0), (⟨#[112, 114, 101, 102, 101, 114, 114, 101, 100, 95, 117, 115, 101, 114, 110, 97, 109, 101]⟩, 16, 0), (⟨#[112, 114, 111, 102, 105, 108, 101]⟩, 17, 0), (⟨#[115, 117, 98]⟩, 18, 0), (⟨#[119, 101, 98, 115, 105, 116, 101]⟩, 19, 0), (⟨#[122, 111, 110, 101, 105, 110, 102, 111]⟩, 20, 0)]
theorem tyK_ne (k : Nat) : tyK k ≠ 9 ∧ tyK k ≠ 4 := by
  unfold tyK
  split <;> decide
/-- The places of the known fields, of the others, and the map's, are all different. -/
def plK (k : Nat) : List Nat := mcK k :: ((fldK k).map (·.2.1) ++ (restK k).map (·.1))
theorem plK_nodup (k : Nat) : (plK k).Nodup := by
  unfold plK mcK fldK restK
  split <;> decide
/-- What a name has. -/
def lookG {α : Type} (L : List (ByteArray × α)) (s : ByteArray) : Option α := (L.find? fun p => decide (p.1 = s)).map (·.2)
section
variable {α : Type} {n s : ByteArray} {x : α}
theorem lookG_nil : lookG ([] : List (ByteArray × α)) s = none := rfl
theorem lookG_cons (p : ByteArray × α) (L : List (ByteArray × α)) : lookG (p :: L) s = if p.1 = s then some p.2 else lookG L s := by
  unfold lookG
  by_cases e : p.1 = s
  · simp [e]
  · simp [e]
theorem lookG_none {L : List (ByteArray × α)} : lookG L s = none ↔ s ∉ L.map (·.1) := by
  induction L with
  | nil => simp [lookG_nil]
  | cons p L ih =>
    rw [lookG_cons]
    by_cases e : p.1 = s
    · simp [e]
    · rw [if_neg e, ih, List.map_cons, List.mem_cons]
      constructor
      · rintro h (h1 | h1)
        · exact e h1.symm
        · exact h h1
      · exact fun h h1 => h (.inr h1)
theorem lookG_mem {L : List (ByteArray × α)} (h : lookG L s = some x) : (s, x) ∈ L := by
  induction L with
  | nil => cases h
  | cons p L ih =>
    rw [lookG_cons] at h
    by_cases e : p.1 = s
    · rw [if_pos e] at h
      injection h with h
      subst h; subst e
      exact List.mem_cons_self
    · rw [if_neg e] at h
      exact List.mem_cons_of_mem _ (ih h)
theorem lookG_of_mem {L : List (ByteArray × α)} (hn : (L.map (·.1)).Nodup) (h : (s, x) ∈ L) : lookG L s = some x := by
  induction L with
  | nil => cases h
  | cons p L ih =>
    rw [List.map_cons, List.nodup_cons] at hn
    rw [lookG_cons]
    rcases List.mem_cons.1 h with rfl | h
    · rw [if_pos rfl]
    · rw [if_neg (fun e => hn.1 (by rw [e]; exact List.mem_map_of_mem (f := (·.1)) h)), ih hn.2 h]
theorem lookG_append (L M : List (ByteArray × α)) : lookG (L ++ M) s = (lookG L s).or (lookG M s) := by
  induction L with
  | nil => simp [lookG_nil]
  | cons p L ih =>
    rw [List.cons_append, lookG_cons, lookG_cons, ih]
    by_cases e : p.1 = s
    · simp [e]
    · simp [e]
theorem lookG_map {β : Type} (f : α → β) (L : List (ByteArray × α)) : lookG (L.map (fun p => (p.1, f p.2))) s = (lookG L s).map f := by
  induction L with
  | nil => rfl
  | cons p L ih =>
    rw [List.map_cons, lookG_cons, lookG_cons, ih]
    by_cases e : p.1 = s
    · simp [e]
    · simp [e]
theorem lookG_filter {q : ByteArray → Bool} {L : List (ByteArray × α)} (hq : q s = true) : lookG (L.filter (fun p => q p.1)) s = lookG L s := by
  induction L with
  | nil => rfl
  | cons p L ih =>
    rw [List.filter_cons, lookG_cons]
    by_cases e : p.1 = s
    · rw [if_pos e, if_pos (by rw [e]; exact hq), lookG_cons, if_pos e]
    · rw [if_neg e]
      split
      · rw [lookG_cons, if_neg e, ih]
      · exact ih
theorem lookG_filter_no {q : ByteArray → Bool} {L : List (ByteArray × α)} (hq : q s = false) : lookG (L.filter (fun p => q p.1)) s = none := by
  rw [lookG_none]
  intro h
  obtain ⟨p, hp, e⟩ := List.mem_map.1 h
  have := (List.mem_filter.1 hp).2
  rw [e, hq] at this
  cases this
theorem lookG_dropG (L : List (ByteArray × α)) : lookG (dropG n L) s = if s = n then none else lookG L s := by
  by_cases e : s = n
  · rw [if_pos e]
    exact lookG_filter_no (q := fun m => decide (m ≠ n)) (by simp [e])
  · rw [if_neg e]
    exact lookG_filter (q := fun m => decide (m ≠ n)) (by simp [e])
theorem lookG_putG (L : List (ByteArray × α)) : lookG (putG n x L) s = if s = n then some x else lookG L s := by
  by_cases h : n ∈ L.map (·.1)
  · rw [putG_in h]
    induction L with
    | nil => simp at h
    | cons p L ih =>
      rw [List.map_cons, lookG_cons, lookG_cons]
      by_cases e : p.1 = n
      · by_cases es : s = n
        · subst es; simp [e]
        · have : ¬ n = s := fun e2 => es e2.symm
          have e4 : ¬ p.1 = s := by rw [e]; exact this
          simp only [e, if_true, this, if_false, es]
          by_cases hL : n ∈ L.map (·.1)
          · rw [ih hL, if_neg es]
          · have : L.map (fun p => if p.1 = n then (n, x) else p) = L := by
              conv => rhs; rw [← List.map_id L]
              apply List.map_congr_left
              intro q hq
              rw [if_neg (fun e3 => hL (by rw [← e3]; exact List.mem_map_of_mem hq))]; rfl
            rw [this]
      · rw [if_neg e]
        by_cases e2 : p.1 = s
        · rw [if_pos e2, if_neg (fun e3 => e (by rw [e2, e3])), if_pos e2]
        · rw [if_neg e2, if_neg e2]
          have hL : n ∈ L.map (·.1) := by
            rw [List.map_cons, List.mem_cons] at h
            rcases h with h | h
            · exact absurd h.symm e
            · exact h
          exact ih hL
  · rw [putG_out h, lookG_append, lookG_cons, lookG_nil]
    by_cases e : s = n
    · subst e
      rw [lookG_none.2 h]; simp
    · rw [if_neg e, if_neg (fun e2 => e e2.symm)]; simp
theorem filter_putG_no {q : ByteArray → Bool} (hq : q n = false) (L : List (ByteArray × α)) : (putG n x L).filter (fun p => q p.1) = L.filter (fun p => q p.1) := by
  by_cases h : n ∈ L.map (·.1)
  · rw [putG_in h, List.filter_map]
    have e1 : (fun p : ByteArray × α => q p.1) ∘ (fun p => if p.1 = n then (n, x) else p) = fun p => q p.1 := by
      funext p
      by_cases e : p.1 = n
      · simp [e]
      · simp [e]
    rw [e1]
    conv => rhs; rw [← List.map_id (L.filter fun p => q p.1)]
    apply List.map_congr_left
    intro p hp
    have := (List.mem_filter.1 hp).2
    rw [if_neg (fun e => by rw [e, hq] at this; cases this)]; rfl
  · rw [putG_out h, List.filter_append]
    simp [hq]
theorem filter_putG_yes {q : ByteArray → Bool} (hq : q n = true) (L : List (ByteArray × α)) : (putG n x L).filter (fun p => q p.1) = putG n x (L.filter (fun p => q p.1)) := by
  by_cases h : n ∈ L.map (·.1)
  · have h2 : n ∈ (L.filter (fun p => q p.1)).map (·.1) := by
      obtain ⟨p, hp, e⟩ := List.mem_map.1 h
      exact List.mem_map.2 ⟨p, List.mem_filter.2 ⟨hp, by rw [e]; exact hq⟩, e⟩
    rw [putG_in h, putG_in h2, List.filter_map]
    have e1 : (fun p : ByteArray × α => q p.1) ∘ (fun p => if p.1 = n then (n, x) else p) = fun p => q p.1 := by
      funext p
      by_cases e : p.1 = n
      · simp [e]
      · simp [e]
    rw [e1]
  · have h2 : n ∉ (L.filter (fun p => q p.1)).map (·.1) := by
      intro h3
      obtain ⟨p, hp, e⟩ := List.mem_map.1 h3
      exact h (List.mem_map.2 ⟨p, (List.mem_filter.1 hp).1, e⟩)
    rw [putG_out h, putG_out h2, List.filter_append]
    simp [hq]
theorem filter_dropG {q : ByteArray → Bool} (L : List (ByteArray × α)) : (dropG n L).filter (fun p => q p.1) = dropG n (L.filter (fun p => q p.1)) := by
  unfold dropG
  rw [List.filter_filter, List.filter_filter]
  congr 1
  funext p
  exact Bool.and_comm _ _
end
/-- A name is one of the known ones. -/
def isK (k : Nat) (n : ByteArray) : Bool := (fldK k).any (fun f => decide (f.1 = n))
theorem isK_iff {k : Nat} {n : ByteArray} : isK k n = true ↔ ∃ f ∈ fldK k, f.1 = n := by simp [isK]
/-- The fields whose names are not known. -/
def priv (k : Nat) (S : List (ByteArray × PV)) : List (ByteArray × PV) := S.filter (fun p => !isK k p.1)
theorem priv_put_no {k : Nat} {n : ByteArray} {x : PV} (h : isK k n = true) (S : List (ByteArray × PV)) : priv k (putG n x S) = priv k S := filter_putG_no (q := fun m => !isK k m) (by simp [h]) S
theorem priv_put_yes {k : Nat} {n : ByteArray} {x : PV} (h : isK k n = false) (S : List (ByteArray × PV)) : priv k (putG n x S) = putG n x (priv k S) := filter_putG_yes (q := fun m => !isK k m) (by simp [h]) S
theorem priv_drop {k : Nat} {n : ByteArray} (S : List (ByteArray × PV)) : priv k (dropG n S) = dropG n (priv k S) := filter_dropG (q := fun m => !isK k m) S
theorem priv_drop_no {k : Nat} {n : ByteArray} (h : isK k n = true) (S : List (ByteArray × PV)) : priv k (dropG n S) = priv k S := by
  rw [priv_drop]
  refine drop_self fun hm => ?_
  obtain ⟨p, hp, e⟩ := List.mem_map.1 hm
  have := (List.mem_filter.1 hp).2
  rw [e, h] at this
  cases this
/-- No block of a text, of a truth value, or of a row of texts is the one that may turn. -/
def Safe (w : World) (r : Option Nat) : Prop := ∀ b cs T z, w.heap[b]? = some (.cells cs T z) → (T = 9 ∨ T = 4 ∧ cs.size = 1) → some b ≠ r
theorem safe_none (w : World) : Safe w none := fun _ _ _ _ _ _ h => by cases h
theorem safe_blk {w : World} {g T : Nat} {cs : Array Value} (h : Blk w g T cs) (h1 : T ≠ 9 ∧ T ≠ 4) : Safe w (some g) := by
  intro b cs' T' z hb hT e
  injection e with e
  subst e
  unfold Blk at h
  rw [hb] at h
  injection h with h
  injection h with _ h2
  rcases hT with hT | ⟨hT, _⟩
  · exact h1.1 (by rw [← h2, hT])
  · exact h1.2 (by rw [← h2, hT])
theorem safe_map {w : World} {m : Nat} {L : List (ByteArray × Value)} (h : MapL w m L) : Safe w (some m) := by
  intro b cs' T' z hb hT e
  injection e with e
  subst e
  obtain ⟨es, c, h, _⟩ := h
  rw [hb] at h
  cases h
theorem own_safe {w w' : World} {r : Option Nat} {B n : Nat} {v : Value} {xs : List Value} (h : w.ownsRow B 9 1 v n xs) (hg : w.grownBy w' r) (hs : Safe w r) : w'.ownsRow B 9 1 v n xs := by
  refine ⟨h.1, ?_⟩
  rcases h.2 with h0 | ⟨g', cap, cur, rfl, h2, hh, h3⟩
  · exact .inl h0
  · refine .inr ⟨g', cap, cur, rfl, h2, ?_, h3⟩
    have hlt : g' < w.heap.size := (Array.getElem?_eq_some_iff.1 hh).1
    exact (hg.block g' hlt (hs g' _ _ _ hh (.inl rfl))).trans hh
theorem PVal.grown {w w' : World} {r : Option Nat} {B : Nat} {v : Value} {pv : PV} (h : PVal w B v pv) (hg : w.grownBy w' r) (hs : Safe w r) : PVal w' B v pv := by
  cases pv with
  | txt s => exact h
  | tru b => exact h
  | num z => exact h
  | lst l =>
    obtain ⟨a, n, c, e, ho⟩ := h
    exact ⟨a, n, c, e, own_safe ho hg hs⟩
theorem PVal.base {w : World} {B B' : Nat} {v : Value} {pv : PV} (h : PVal w B v pv) (hb : B' ≤ B) : PVal w B' v pv := by
  cases pv with
  | txt s => exact h
  | tru b => exact h
  | num z => exact h
  | lst l =>
    obtain ⟨a, n, c, e, ho⟩ := h
    exact ⟨a, n, c, e, own_base ho hb⟩
/-- A cell of a known field: of what shape, and what it has. -/
def FC (w : World) (sh : Nat) (u : Value) (o : Option PV) : Prop :=
  match sh with
  | 0 => (o = none ∧ u = .pointer none) ∨ ∃ x b, o = some (.txt x) ∧ u = .pointer (some ⟨b, 0, none⟩) ∧ Blk w b 9 #[.string x]
  | 1 => (o = none ∧ u = .pointer none) ∨ ∃ x b, o = some (.tru x) ∧ u = .pointer (some ⟨b, 0, none⟩) ∧ Blk w b 4 #[.bool x]
  | _ => (o = none ∧ u = .slice none 0 0) ∨ ∃ l a n c, o = some (.lst l) ∧ u = .slice (some a) n c ∧ w.ownsRow 0 9 1 (.slice (some a) n c) n (strs l)
theorem FC.grown {w w' : World} {r : Option Nat} {sh : Nat} {u : Value} {o : Option PV} (h : FC w sh u o) (hg : w.grownBy w' r) (hs : Safe w r) : FC w' sh u o := by
  unfold FC at h ⊢
  split at h
  · rcases h with h | ⟨x, b, h1, h2, h3⟩
    · exact .inl h
    · exact .inr ⟨x, b, h1, h2, h3.grown hg (hs b _ _ _ h3 (.inl rfl))⟩
  · rcases h with h | ⟨x, b, h1, h2, h3⟩
    · exact .inl h
    · exact .inr ⟨x, b, h1, h2, h3.grown hg (hs b _ _ _ h3 (.inr ⟨rfl, rfl⟩))⟩
  · rename_i h0 h1
    rcases h with h | ⟨l, a, n, c, h1, h2, h3⟩
    · exact .inl h
    · exact .inr ⟨l, a, n, c, h1, h2, own_safe h3 hg hs⟩
/-- The map of fields whose names are not known; it may be nil as long as there is none. -/
def Prv (w : World) (B : Nat) (m : Option Nat) (L : List (ByteArray × PV)) : Prop :=
  (m = none ∧ L = []) ∨ ∃ (mm : Nat) (E : List (ByteArray × Value × PV)), m = some mm ∧ B ≤ mm ∧ MapL w mm (E.map fun t => (t.1, t.2.1)) ∧ E.map (fun t => (t.1, t.2.2)) = L ∧ ∀ t ∈ E, PVal w 0 t.2.1 t.2.2
theorem Prv.grown {w w' : World} {r : Option Nat} {B : Nat} {m : Option Nat} {L : List (ByteArray × PV)} (h : Prv w B m L) (hg : w.grownBy w' r) (hs : Safe w r) (hm : ∀ mm, m = some mm → some mm ≠ r) : Prv w' B m L := by
  rcases h with h | ⟨mm, E, h1, h2, h3, h4, h5⟩
  · exact .inl h
  · exact .inr ⟨mm, E, h1, h2, h3.grown hg (hm mm h1), h4, fun t ht => (h5 t ht).grown hg hs⟩
theorem Prv.ne {w : World} {B : Nat} {m : Option Nat} {L : List (ByteArray × PV)} (h : Prv w B m L) {g T : Nat} {cs : Array Value} (hb : Blk w g T cs) : ∀ mm, m = some mm → some mm ≠ some g := by
  intro mm e e2
  injection e2 with e2
  subst e2
  rcases h with ⟨h, _⟩ | ⟨m2, E, h1, _, h3, _⟩
  · rw [e] at h; cases h
  · rw [e] at h1
    injection h1 with h1
    subst h1
    exact h3.ne hb rfl
/-- Blocks but one, and but maps, lie as before. -/
def Keep (w : World) (g : Nat) (w' : World) : Prop := ∀ i o, w.heap[i]? = some o → (∀ es c, o ≠ .map es c) → i ≠ g → w'.heap[i]? = some o
theorem Keep.cells {w w' : World} {g : Nat} (h : Keep w g w') {i : Nat} {cs : Array Value} {T : TypeId} {z : Nat × Nat} (hi : w.heap[i]? = some (.cells cs T z)) (hne : i ≠ g) : w'.heap[i]? = some (.cells cs T z) := h i _ hi (fun _ _ e => by cases e) hne
theorem keep_g {w w' : World} {g : Nat} (h : w.grownBy w' (some g)) : Keep w g w' := fun i o hi _ hne => (h.block i (Array.getElem?_eq_some_iff.1 hi).1 (fun e => hne (Option.some.inj e))).trans hi
theorem keep_map {w w' : World} {g m : Nat} {L : List (ByteArray × Value)} (hm : MapL w m L) (h : w.grownBy w' (some m)) : Keep w g w' := fun i o hi ho _ => (h.block i (Array.getElem?_eq_some_iff.1 hi).1 (fun e => by
  have e := Option.some.inj e
  subst e
  obtain ⟨es, c, hm, _⟩ := hm
  rw [hm] at hi
  injection hi with hi
  exact ho es c hi.symm)).trans hi
theorem keep_below {w w' : World} {g : Nat} (h : Below w.heap.size w w') : Keep w g w' := fun i o hi _ _ => (h.block i (Array.getElem?_eq_some_iff.1 hi).1).trans hi
theorem Keep.trans {w w1 w2 : World} {g : Nat} (h : Keep w g w1) (k : Keep w1 g w2) : Keep w g w2 := fun i o hi ho hne => k i o (h i o hi ho hne) ho hne
/-- What lies in memory, with the block's cells and the map. -/
structure Parts (k : Nat) (w : World) (B g : Nat) (S : List (ByteArray × PV)) (cs : Array Value) (m : Option Nat) : Prop where
  blk : Blk w g (tyK k) cs
  map_ : cs[mcK k]? = some (.map m)
  rest : ∀ q ∈ restK k, cs[q.1]? = some q.2
  fld : ∀ f ∈ fldK k, ∃ u, cs[f.2.1]? = some u ∧ FC w f.2.2 u (lookG S f.1)
  prv : Prv w B m (priv k S)
  base : B ≤ g
  nd : (S.map (·.1)).Nodup
  ok : ∀ p ∈ S, p.2.ok
/-- The fields of headers, or of a token, at block g; what is written lies at or behind B. -/
def Hd (k : Nat) (w : World) (B g : Nat) (S : List (ByteArray × PV)) : Prop := ∃ cs m, Parts k w B g S cs m
section
variable {k : Nat} {w w' : World} {B g : Nat} {S S' : List (ByteArray × PV)} {cs : Array Value} {m : Option Nat}
theorem Parts.safe (h : Parts k w B g S cs m) : Safe w (some g) := safe_blk h.blk (tyK_ne k)
theorem Parts.grown {r : Option Nat} (h : Parts k w B g S cs m) (hg : w.grownBy w' r) (hs : Safe w r) (h1 : some g ≠ r) (h2 : ∀ mm, m = some mm → some mm ≠ r) : Parts k w' B g S cs m where
  blk := h.blk.grown hg h1
  map_ := h.map_
  rest := h.rest
  fld := fun f hf => by
    obtain ⟨u, e, hu⟩ := h.fld f hf
    exact ⟨u, e, hu.grown hg hs⟩
  prv := h.prv.grown hg hs h2
  base := h.base
  nd := h.nd
  ok := h.ok
theorem Parts.below (h : Parts k w B g S cs m) (hb : Below w.heap.size w w') : Parts k w' B g S cs m :=
  h.grown (grown_of_below hb (Nat.le_refl _) none) (safe_none w) (fun e => by cases e) (fun _ _ e => by cases e)
theorem Hd.below (h : Hd k w B g S) (hb : Below w.heap.size w w') : Hd k w' B g S := by
  obtain ⟨cs, m, h⟩ := h
  exact ⟨cs, m, h.below hb⟩
theorem Hd.drewN (h : Hd k w B g S) (n : Nat) : Hd k (w.drewN n) B g S := h.below (K.below_drewN (Below.refl _ _) n)
theorem Hd.nd (h : Hd k w B g S) : (S.map (·.1)).Nodup := by
  obtain ⟨cs, m, h⟩ := h
  exact h.nd
theorem Hd.ok (h : Hd k w B g S) : ∀ p ∈ S, p.2.ok := by
  obtain ⟨cs, m, h⟩ := h
  exact h.ok
theorem Hd.base (h : Hd k w B g S) : B ≤ g := by
  obtain ⟨cs, m, h⟩ := h
  exact h.base
theorem Hd.lt (h : Hd k w B g S) : g < w.heap.size := by
  obtain ⟨cs, m, h⟩ := h
  exact h.blk.lt
theorem place_inj {f f' : ByteArray × Nat × Nat} (hf : f ∈ fldK k) (hf' : f' ∈ fldK k) (h : f.2.1 = f'.2.1) : f = f' := by
  have hn := plK_nodup k
  unfold plK at hn
  rw [List.nodup_cons, List.nodup_append] at hn
  have hn := hn.2.1
  obtain ⟨i, hi, ei⟩ := List.getElem_of_mem hf
  obtain ⟨j, hj, ej⟩ := List.getElem_of_mem hf'
  have hij : i = j := (List.getElem_inj (xs := (fldK k).map (·.2.1)) (h₀ := by simpa using hi) (h₁ := by simpa using hj) hn).1 (by simp [ei, ej, h])
  subst hij
  rw [← ei, ej]
theorem names_nodup (k : Nat) : ((fldK k).map (·.1)).Nodup := by
  unfold fldK
  split <;> (rw [List.nodup_iff_pairwise_ne]; simp only [List.map_cons, List.map_nil]; decide)
theorem name_inj {f f' : ByteArray × Nat × Nat} (hf : f ∈ fldK k) (hf' : f' ∈ fldK k) (h : f.1 = f'.1) : f = f' := by
  have hn := names_nodup k
  obtain ⟨i, hi, ei⟩ := List.getElem_of_mem hf
  obtain ⟨j, hj, ej⟩ := List.getElem_of_mem hf'
  have hij : i = j := (List.getElem_inj (xs := (fldK k).map (·.1)) (h₀ := by simpa using hi) (h₁ := by simpa using hj) hn).1 (by simp [ei, ej, h])
  subst hij
  rw [← ei, ej]
theorem place_rest {f : ByteArray × Nat × Nat} {q : Nat × Value} (hf : f ∈ fldK k) (hq : q ∈ restK k) : f.2.1 ≠ q.1 := by
  have hn := plK_nodup k
  unfold plK at hn
  rw [List.nodup_cons, List.nodup_append] at hn
  exact hn.2.2.2 _ (List.mem_map_of_mem (f := fun f : ByteArray × Nat × Nat => f.2.1) hf) _ (List.mem_map_of_mem (f := fun q : Nat × Value => q.1) hq)
theorem place_map {f : ByteArray × Nat × Nat} (hf : f ∈ fldK k) : f.2.1 ≠ mcK k := by
  have hn := plK_nodup k
  unfold plK at hn
  rw [List.nodup_cons] at hn
  exact fun e => hn.1 (List.mem_append_left _ (by rw [← e]; exact List.mem_map_of_mem (f := fun f : ByteArray × Nat × Nat => f.2.1) hf))
theorem rest_map {q : Nat × Value} (hq : q ∈ restK k) : q.1 ≠ mcK k := by
  have hn := plK_nodup k
  unfold plK at hn
  rw [List.nodup_cons] at hn
  exact fun e => hn.1 (List.mem_append_right _ (by rw [← e]; exact List.mem_map_of_mem (f := fun q : Nat × Value => q.1) hq))
theorem get_set {cs : Array Value} {i j : Nat} {u v : Value} (h : cs[j]? = some v) : (cs.setIfInBounds i u)[j]? = if i = j then some u else some v := by
  rw [Array.getElem?_setIfInBounds]
  by_cases e : i = j
  · subst e
    rw [if_pos rfl, if_pos rfl, if_pos (Array.getElem?_eq_some_iff.1 h).1]
  · rw [if_neg e, if_neg e]; exact h
/-- One known field's cell turns. -/
theorem Parts.set (h : Parts k w B g S cs m) {f : ByteArray × Nat × Nat} (hf : f ∈ fldK k) {u : Value} {o : Option PV} (hb : Blk w' g (tyK k) (cs.setIfInBounds f.2.1 u)) (hg : w.grownBy w' (some g))
    (hl : ∀ s, lookG S' s = if s = f.1 then o else lookG S s) (hp : priv k S' = priv k S) (hu : FC w' f.2.2 u o) (hn : (S'.map (·.1)).Nodup) (hk : ∀ p ∈ S', p.2.ok) : Hd k w' B g S' := by
  refine ⟨_, m, hb, ?_, ?_, ?_, ?_, h.base, hn, hk⟩
  · rw [get_set h.map_, if_neg (place_map hf)]
  · intro q hq
    rw [get_set (h.rest q hq), if_neg (place_rest hf hq)]
  · intro f' hf'
    obtain ⟨u', e, hu'⟩ := h.fld f' hf'
    rw [get_set e, hl]
    by_cases hff : f.2.1 = f'.2.1
    · obtain rfl := place_inj hf hf' hff
      exact ⟨u, if_pos rfl, by rw [if_pos rfl]; exact hu⟩
    · by_cases hnn : f'.1 = f.1
      · exact absurd hnn (fun e => hff (by rw [name_inj hf hf' e.symm]))
      · exact ⟨u', if_neg hff, by rw [if_neg hnn]; exact hu'.grown hg h.safe⟩
  · rw [hp]
    exact h.prv.grown hg h.safe (h.prv.ne h.blk)
theorem ok_put {n : ByteArray} {x : PV} (h : ∀ p ∈ S, p.2.ok) (hx : x.ok) : ∀ p ∈ putG n x S, p.2.ok := by
  intro p hp
  by_cases hn : n ∈ S.map (·.1)
  · rw [putG_in hn] at hp
    obtain ⟨q, hq, rfl⟩ := List.mem_map.1 hp
    split
    · exact hx
    · exact h q hq
  · rw [putG_out hn] at hp
    rcases List.mem_append.1 hp with hp | hp
    · exact h p hp
    · rw [List.mem_singleton.1 hp]; exact hx
theorem ok_drop {n : ByteArray} (h : ∀ p ∈ S, p.2.ok) : ∀ p ∈ dropG n S, p.2.ok := fun p hp => h p (List.mem_filter.1 hp).1
theorem known_of {f : ByteArray × Nat × Nat} (hf : f ∈ fldK k) : isK k f.1 = true := isK_iff.2 ⟨f, hf, rfl⟩
theorem Parts.put (h : Parts k w B g S cs m) {f : ByteArray × Nat × Nat} (hf : f ∈ fldK k) {u : Value} {x : PV} (hb : Blk w' g (tyK k) (cs.setIfInBounds f.2.1 u)) (hg : w.grownBy w' (some g)) (hu : FC w' f.2.2 u (some x)) (hx : x.ok) : Hd k w' B g (putG f.1 x S) :=
  h.set hf hb hg (fun s => lookG_putG S) (priv_put_no (known_of hf) S) hu (nodup_putG h.nd) (ok_put h.ok hx)
theorem Parts.drop (h : Parts k w B g S cs m) {f : ByteArray × Nat × Nat} (hf : f ∈ fldK k) {u : Value} (hb : Blk w' g (tyK k) (cs.setIfInBounds f.2.1 u)) (hg : w.grownBy w' (some g)) (hu : FC w' f.2.2 u none) : Hd k w' B g (dropG f.1 S) :=
  h.set hf hb hg (fun s => lookG_dropG S) (priv_drop_no (known_of hf) S) hu (nodup_dropG h.nd) (ok_drop h.ok)
/-- A field whose name is not known is put. -/
theorem Parts.putP {mm : Nat} (h : Parts k w B g S cs (some mm)) {n : ByteArray} (hn : isK k n = false) {v : Value} {x : PV} (hv : PVal w 0 v x) (hx : x.ok) {mty kt et : TypeId} {P : Program} (hm : P.underlying mty = some (.map kt et)) (hd : P.underlying kt = some .string) :
    ∃ W', Sem.run P (Instr.mapUpdate mty (.map (some mm)) (.string n) v) w = .ok () W' ∧ Hd k W' B g (putG n x S) ∧ w.grownBy W' (some mm) ∧ B ≤ mm ∧ Keep w g W' := by
  rcases h.prv with ⟨e, _⟩ | ⟨m2, E, e, h2, h3, h4, h5⟩
  · cases e
  injection e with e
  subst e
  have en : (E.map fun t => (t.1, t.2.1)).map (·.1) = (priv k S).map (·.1) := by rw [← h4, List.map_map, List.map_map]; rfl
  have hnd : ((E.map fun t => (t.1, t.2.1)).map (·.1)).Nodup := by
    rw [en]
    exact (List.filter_sublist.map _).nodup h.nd
  obtain ⟨W', hr, hM, hg⟩ := run_putL hm hd h3 hnd n v
  have hs := safe_map h3
  refine ⟨W', hr, ⟨cs, some mm, h.blk.grown hg (fun e => h3.ne h.blk (Option.some.inj e)), h.map_, h.rest, ?_, ?_, h.base, nodup_putG h.nd, ok_put h.ok hx⟩, hg, h2, keep_map h3 hg⟩
  · intro f hf
    obtain ⟨u, e, hu⟩ := h.fld f hf
    refine ⟨u, e, ?_⟩
    rw [lookG_putG, if_neg (fun e => by rw [← e, known_of hf] at hn; cases hn)]
    exact hu.grown hg hs
  · refine .inr ⟨mm, putG n (v, x) E, rfl, h2, ?_, ?_, ?_⟩
    · rw [putG_map (fun t : Value × PV => t.1)]
      exact hM
    · rw [putG_map (fun t : Value × PV => t.2), h4, priv_put_yes hn]
    · intro t ht
      by_cases hin : n ∈ E.map (·.1)
      · rw [putG_in hin] at ht
        obtain ⟨q, hq, rfl⟩ := List.mem_map.1 ht
        split
        · exact hv.grown hg hs
        · exact (h5 q hq).grown hg hs
      · rw [putG_out hin] at ht
        rcases List.mem_append.1 ht with ht | ht
        · exact (h5 t ht).grown hg hs
        · rw [List.mem_singleton.1 ht]; exact hv.grown hg hs
/-- A field whose name is not known is taken away. -/
theorem Parts.dropP (h : Parts k w B g S cs m) {n : ByteArray} (hn : isK k n = false) {mty kt et : TypeId} {P : Program} (hm : P.underlying mty = some (.map kt et)) (hd : P.underlying kt = some .string) (ty : TypeId) :
    ∃ W', Sem.run P (Builtin.delete_ #[mty, kt] ty #[.map m, .string n]) w = .ok (.tuple #[]) W' ∧ Hd k W' B g (dropG n S) ∧ Below B w W' ∧ Keep w g W' := by
  rcases h.prv with ⟨rfl, h0⟩ | ⟨mm, E, rfl, h2, h3, h4, h5⟩
  · refine ⟨w, run_del_nil hm hd ty n, ⟨cs, none, h.blk, h.map_, h.rest, ?_, .inl ⟨rfl, ?_⟩, h.base, nodup_dropG h.nd, ok_drop h.ok⟩, Below.refl _ _, keep_below (Below.refl _ _)⟩
    · intro f hf
      obtain ⟨u, e, hu⟩ := h.fld f hf
      refine ⟨u, e, ?_⟩
      rw [lookG_dropG, if_neg (fun e => by rw [← e, known_of hf] at hn; cases hn)]
      exact hu
    · rw [priv_drop, h0]; rfl
  have en : (E.map fun t => (t.1, t.2.1)).map (·.1) = (priv k S).map (·.1) := by rw [← h4, List.map_map, List.map_map]; rfl
  have hnd : ((E.map fun t => (t.1, t.2.1)).map (·.1)).Nodup := by
    rw [en]
    exact (List.filter_sublist.map _).nodup h.nd
  obtain ⟨W', hr, hM, hg⟩ := run_delL hm hd ty h3 hnd n
  have hs := safe_map h3
  refine ⟨W', hr, ⟨cs, some mm, h.blk.grown hg (fun e => h3.ne h.blk (Option.some.inj e)), h.map_, h.rest, ?_, ?_, h.base, nodup_dropG h.nd, ok_drop h.ok⟩, below_of_grown hg h2 (Nat.le_of_lt (Nat.lt_of_le_of_lt h2 h3.lt)), keep_map h3 hg⟩
  · intro f hf
    obtain ⟨u, e, hu⟩ := h.fld f hf
    refine ⟨u, e, ?_⟩
    rw [lookG_dropG, if_neg (fun e => by rw [← e, known_of hf] at hn; cases hn)]
    exact hu.grown hg hs
  · refine .inr ⟨mm, dropG n E, rfl, h2, ?_, ?_, ?_⟩
    · rw [dropG_map (fun t : Value × PV => t.1)]
      exact hM
    · rw [dropG_map (fun t : Value × PV => t.2), h4, priv_drop]
    · intro t ht
      exact (h5 t (List.mem_filter.1 ht).1).grown hg hs
/-- A look for a name that is not known. -/
theorem Parts.look (h : Parts k w B g S cs m) {n : ByteArray} (hn : isK k n = false) {mty kt et : TypeId} {P : Program} (hm : P.underlying mty = some (.map kt et)) (hd : P.underlying kt = some .string) (z : Value) (hz : ∀ W : World, (zeroValue et).run P W = .ok z W) :
    ∃ v, (∀ W : World, W.heap = w.heap → Sem.run P (Instr.lookup mty (.map m) (.string n) true) W = .ok (.tuple #[v, .bool (lookG S n).isSome]) W) ∧ ∀ x, lookG S n = some x → PVal w 0 v x := by
  have hl : lookG (priv k S) n = lookG S n := lookG_filter (q := fun m => !isK k m) (by simp [hn])
  rcases h.prv with ⟨rfl, h0⟩ | ⟨mm, E, rfl, h2, h3, h4, h5⟩
  · have e : lookG S n = none := by rw [← hl, h0]; rfl
    rw [e]
    exact ⟨z, fun W _ => run_look_nil hm hd n z (hz W), fun x hx => by cases hx⟩
  · have e1 : lookL (E.map fun t => (t.1, t.2.1)) n = (lookG E n).map (·.1) := lookG_map (fun t : Value × PV => t.1) E
    have e2 : lookG S n = (lookG E n).map (·.2) := by rw [← hl, ← h4]; exact lookG_map (fun t : Value × PV => t.2) E
    have hM : ∀ W : World, W.heap = w.heap → MapL W mm (E.map fun t => (t.1, t.2.1)) := by
      intro W e
      obtain ⟨es, c, h6, h7⟩ := h3
      exact ⟨es, c, by rw [e]; exact h6, h7⟩
    refine ⟨((lookG E n).map (·.1)).getD z, fun W e => ?_, fun x hx => ?_⟩
    · rw [run_look hm hd W mm _ (hM W e) n z (hz W), e1, e2]
      simp
    · rw [e2] at hx
      cases he : lookG E n with
      | none => rw [he] at hx; cases hx
      | some t =>
        rw [he] at hx
        injection hx with hx
        subst hx
        exact h5 (n, t) (lookG_mem he)
end
end Go.Proofs.YtapjbdigpleekaaGreat.Mp
