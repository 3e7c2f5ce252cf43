/- slices.Sort over at most twelve texts; slices.Sorted over a slice's values: the texts in order; the conditions are on what lies in memory. -/
import Derived.Test.YtlbnemnadegapaaDoorKySeq
import Derived.Sort.WalkA
import Derived.Sort.EncStr
import Derived.Sort.LotA
set_option linter.unusedVariables false
set_option linter.unusedSimpArgs false
namespace Go.Proofs.YtlbnemnadegapaaDoor.Ky
open Go.RowKit Go.Sort Go.Proofs.YtlbnemnadegapaaDoor.K
section
set_option maxHeartbeats 1000000 in
theorem isNaN_calls (x : ByteArray) (w : World) : Calls Tryd.prog 66 #[.string x] w fun e w' => e = .returned (.bool false) ∧ w' = w := by
  go_enter Tryd.func66, Tryd.ntmps66
  go_wp2
  go_ret
  exact ⟨by simp, rfl⟩
set_option maxHeartbeats 1000000 in
theorem Less_calls (x y : ByteArray) (w : World) : Calls Tryd.prog 52 #[.string x, .string y] w fun e w' => e = .returned (.bool (Sort.ltStr x.data.toList y.data.toList)) ∧ w' = w := by
  go_enter Tryd.func52, Tryd.ntmps52
  go_wp2_with (go_at_call 66; refine (isNaN_calls _ _).mono ?_; rintro e w' ⟨rfl, rfl⟩)
  go_ret
  refine ⟨?_, rfl⟩
  rw [bytesLess_eq, Lib.toList_data, Lib.toList_data]
  rfl
set_option maxRecDepth 100000 in
set_option maxHeartbeats 4000000 in
theorem bitsLen_calls (n : Nat) (w : World) (hn : n ≤ 12) : Calls Tryd.prog 37 #[.int .u64 n] w fun e w' => (∃ z, e = .returned (.int .i64 z)) ∧ w' = w := by
  have h64 : Calls Tryd.prog 56 #[.int .u64 n] w fun e w' => (∃ z, e = .returned (.int .i64 z)) ∧ w' = w := by
    have : n = 0 ∨ n = 1 ∨ n = 2 ∨ n = 3 ∨ n = 4 ∨ n = 5 ∨ n = 6 ∨ n = 7 ∨ n = 8 ∨ n = 9 ∨ n = 10 ∨ n = 11 ∨ n = 12 := by omega
    rcases this with rfl | rfl | rfl | rfl | rfl | rfl | rfl | rfl | rfl | rfl | rfl | rfl | rfl
    all_goals
      go_enter Tryd.func56, Tryd.ntmps56
      go_wp2
      go_ret
      exact ⟨⟨_, rfl⟩, rfl⟩
  go_enter Tryd.func37, Tryd.ntmps37
  go_wp2_with (go_at_call 56; refine h64.mono ?_; rintro e w' ⟨⟨z, rfl⟩, rfl⟩)
  go_ret
  exact ⟨⟨_, rfl⟩, rfl⟩
set_option maxRecDepth 100000 in
set_option maxHeartbeats 8000000 in
theorem insertionSort_calls (blk off cap a b : Nat) (d : Array (List UInt8)) (w : World) (hH : Holds encStr w blk off d) (hab : a ≤ b) (hb : b ≤ d.size) (hsz : d.size < 4611686018427387904) :
    Calls Tryd.prog 46 #[.slice (some ⟨blk, off, none⟩) d.size cap, .int .i64 a, .int .i64 b] w fun e w' =>
      e = .returned (.tuple #[]) ∧ ∃ n, w' = putRow encStr (Sort.ahead w n) blk off (Sort.insertionSort ltStr d a b) := by
  go_enter Tryd.func46, Tryd.ntmps46
  go_wp2
  go_loopw [6] (fun vi wr => ∃ (i n : Nat) (dk : Array (List UInt8)), vi = .int .i64 i ∧ a < i ∧ i ≤ b + 1 ∧ dk.size = d.size ∧ wr = putRow encStr (Sort.ahead w n) blk off dk ∧
      insOuter ltStr a b i dk = insOuter ltStr a b (a + 1) d) (fun vi _ => b + 1 - (Go.Proofs.intOf vi).toNat)
  case atStart => exact ⟨a + 1, 0, d, by go_num, by omega, by omega, rfl, (putRow_self _ _ _ _ _ hH).symm, rfl⟩
  case round =>
    obtain ⟨i, n, dk, rfl, hai, hib, hsk, hwr, hO⟩ := hrel
    have HO : Hid (insOuter ltStr a b i dk = insOuter ltStr a b (a + 1) d) := hO
    clear hO
    go_wp2
    · go_loopw [7] (fun vj wr2 => ∃ (j m : Nat) (dj : Array (List UInt8)), vj = .int .i64 j ∧ a ≤ j ∧ j ≤ i ∧ dj.size = d.size ∧ wr2 = putRow encStr (Sort.ahead w m) blk off dj ∧
          insInner ltStr a j dj = insInner ltStr a i dk) (fun vj _ => (Go.Proofs.intOf vj).toNat)
      case atStart => exact ⟨i, n, dk, rfl, by omega, Nat.le_refl _, hsk, rfl, rfl⟩
      case round =>
        obtain ⟨j, m, dj, rfl, haj, hji, hsj, hw2, hI⟩ := hrel
        have hlt : i < b := by assumption
        obtain ⟨G, hG⟩ : ∃ G : Nat → List UInt8, ∀ t, G t = dj[t]! := ⟨fun t => dj[t]!, fun _ => rfl⟩
        have hcw : ∀ t, t < d.size → wr.cell? ⟨blk, off + t, none⟩ = some (.string ⟨(G t).toArray⟩) := fun t ht => by
          rw [hw2, hG]; exact cell?_putRow _ _ _ _ d dj (holds_ahead _ _ _ _ _ _ hH) hsj t (by omega)
        have hfw : ∀ t, t < d.size → wr.frozen? ⟨blk, off + t, none⟩ = false := fun t ht => by
          rw [hw2, frozen?_putRow]; exact ((holds_ahead _ _ m _ _ _ hH) t ht).2
        have HW : Hid (wr = putRow encStr (Sort.ahead w m) blk off dj) := hw2
        have HG : Hid (∀ t, G t = dj[t]!) := hG
        have HI : Hid (insInner ltStr a j dj = insInner ltStr a i dk) := hI
        clear hw2 hG hI hH
        have out : (j ≤ a ∨ ltStr dj[j]! dj[j - 1]! = false) → ∀ q, ∃ i' n' dk', Value.int .i64 ((i : Int) + 1) = .int .i64 (i' : Nat) ∧ a < i' ∧ i' ≤ b + 1 ∧ dk'.size = d.size ∧
            wr.drewN q = putRow encStr (Sort.ahead w n') blk off dk' ∧ insOuter ltStr a b i' dk' = insOuter ltStr a b (a + 1) d := fun hs q =>
          ⟨i + 1, m + q, dj, by go_num, by omega, by omega, hsj, by rw [HW.out]; exact putRow_drewN _ _ _ _ _ _ _,
            by rw [← HO.out, insOuter_go _ _ _ _ _ hlt, ← HI.out, insInner_stop _ _ _ _ hs]⟩
        have OUT : Hid _ := out
        clear out
        go_wp2
        by_cases hja : a < j
        · go_quiet (first | (go_at_call 52; refine Calls.quiet_of_same (Less_calls _ _ _)))
          go_wp2
          · have hl : ltStr (G j) (G (j - 1)) = true := by assumption
            go_region
            all_goals go_wp2
            go_roundw
            case rel =>
              refine ⟨j - 1, m + (nq + 1), swp dj j (j - 1), by congr 1; omega, by omega, by omega, by rw [size_swp]; exact hsj, ?_, ?_⟩
              · rw [HW.out, HG.out, HG.out]
                exact swap_worldA _ w m (nq + 1) blk off dj j (j - 1) (by omega) (by omega)
              · rw [← HI.out, insInner_go ltStr a j dj hja (by rw [← HG.out, ← HG.out]; exact hl)]
            case measure => simp [Go.Proofs.intOf]; omega
          · have hl : ltStr (G j) (G (j - 1)) = false := by assumption
            go_roundw
            case rel => exact OUT.out (Or.inr (by rw [← HG.out, ← HG.out]; exact hl)) nq
            case measure => simp [Go.Proofs.intOf]; omega
        · go_quiet (first | (go_at_call 52; refine Calls.quiet_of_same (Less_calls _ _ _)))
          go_wp2
          go_roundw
          case rel => exact OUT.out (Or.inl (by omega)) nq
          case measure => simp [Go.Proofs.intOf]; omega
    · have hge : ¬ i < b := by assumption
      go_end0
      exact ⟨rfl, n, by unfold Sort.insertionSort; rw [← HO.out, insOuter_stop _ _ _ _ _ hge]⟩
set_option maxRecDepth 100000 in
set_option maxHeartbeats 4000000 in
theorem pdq_calls (blk off cap n : Nat) (z : Int) (d : Array (List UInt8)) (w : World) (hH : Holds encStr w blk off d) (hd : d.size = n) (hn : n ≤ 12) :
    Calls Tryd.prog 36 #[.slice (some ⟨blk, off, none⟩) n cap, .int .i64 0, .int .i64 n, .int .i64 z] w fun e w' =>
      e = .returned (.tuple #[]) ∧ ∃ k, w' = putRow encStr (Sort.ahead w k) blk off (Sort.insertionSort ltStr d 0 n) := by
  subst hd
  have HC := Lib.hid (insertionSort_calls blk off cap 0 d.size d w hH (by omega) (Nat.le_refl _) (by omega))
  go_enter Tryd.func36, Tryd.ntmps36
  go_wp2
  refine wp_loop_rounds 1 ?_
  rw [rounds_succ]
  go_wp2_with (go_at_call 46; with_reducible refine Calls.mono HC.out ?_; rintro e w' ⟨rfl, k, rfl⟩)
  refine bodyPost_ret (results_none rfl _ _ _) rfl ?_
  exact ⟨rfl, k, rfl⟩
set_option maxRecDepth 100000 in
set_option maxHeartbeats 4000000 in
/-- slices.Sort. -/
theorem Sort_calls (blk off cap n : Nat) (d : Array (List UInt8)) (w : World) (hH : Holds encStr w blk off d) (hd : d.size = n) (hn : n ≤ 12) :
    Calls Tryd.prog 19 #[.slice (some ⟨blk, off, none⟩) n cap] w fun e w' =>
      e = .returned (.tuple #[]) ∧ ∃ k, w' = putRow encStr (Sort.ahead w k) blk off (Sort.insertionSort ltStr d 0 n) := by
  have HD := Lib.hid (And.intro hH hd)
  clear hH hd
  go_enter Tryd.func19, Tryd.ntmps19
  go_wp2_with (first
    | (go_at_call 37; refine (bitsLen_calls n _ hn).mono ?_; rintro e w' ⟨⟨z, rfl⟩, rfl⟩)
    | (go_at_call 36; refine (pdq_calls blk off cap n _ d _ HD.out.1 HD.out.2 hn).mono ?_; rintro e w' ⟨rfl, k, rfl⟩))
  first
    | (go_end0; exact ⟨rfl, k, rfl⟩)
    | (exact bodyPost_end (v := .tuple #[]) (by kernel_rfl) rfl ⟨rfl, k, rfl⟩)
    | (refine bodyPost_end (v := .tuple #[]) (results_none rfl _ _ _) rfl ?_; exact ⟨rfl, k, rfl⟩)
end
end Go.Proofs.YtlbnemnadegapaaDoor.Ky
