/- slices.Sorted over a slice's values: the texts in order; the conditions are on what lies in memory. -/
import Derived.Test.YtlbnemnadegapaaDoorKySort
import Derived.Sort.OwnSorted
set_option linter.unusedVariables false
set_option linter.unusedSimpArgs false
namespace Go.Proofs.YtlbnemnadegapaaDoor.Ky
open Go.RowKit Go.Sort Go.Proofs.YtlbnemnadegapaaDoor.K
/-- A text's bytes; the text of bytes; texts in order. -/
def byL (s : ByteArray) : List UInt8 := s.data.toList
def sortL (l : List (List UInt8)) : List (List UInt8) := l.mergeSort fun x y => decide (x ≤ y)
theorem enc_byL (s : ByteArray) : encStr (byL s) = .string s := by
  unfold byL encStr
  rfl
theorem map_enc (l : List ByteArray) : (l.map byL).map encStr = l.map Value.string := by
  rw [List.map_map]
  exact List.map_congr_left fun s _ => enc_byL s
theorem ins_sorted (ss : List (List UInt8)) : Sort.insertionSort ltStr ss.toArray 0 ss.length = (sortL ss).toArray := by
  have h0 := insertionSort_holds (lt := ltStr) swo_ltStr ss.toArray 0 ss.length (Nat.zero_le _) (by simp)
  obtain ⟨hP, hSo⟩ := h0
  have h := sorted_unique_holds swo_ltStr (fun x y h1 h2 => by simp only [ltStr, decide_eq_false_iff_not, List.not_lt] at h1 h2; exact List.le_antisymm h2 h1) ss.toArray _ (by simpa using hP) (by simpa using hSo)
  apply Array.ext'
  simp only at h ⊢
  rw [h]
  unfold sortL
  congr 1
  funext x y
  show (!decide (y < x)) = decide (x ≤ y)
  by_cases h : x ≤ y
  · have h' : ¬ y < x := List.not_lt.2 h
    simp [h, h']
  · have h' : y < x := List.not_le.1 h
    simp [h, h']
theorem ahead_grow (w : World) : grow w #[] = w := by simp [grow]
section
set_option maxRecDepth 100000 in
set_option maxHeartbeats 4000000 in
theorem Sort_nil (w : World) : Calls Tryd.prog 19 #[.slice none 0 0] w fun e w' => e = .returned (.tuple #[]) ∧ w' = w := by
  have h1 : Calls Tryd.prog 46 #[.slice none 0 0, .int .i64 0, .int .i64 0] w fun e w' => e = .returned (.tuple #[]) ∧ w' = w := by
    go_enter Tryd.func46, Tryd.ntmps46
    go_wp2
    refine wp_loop_rounds 1 ?_
    rw [rounds_succ]
    go_wp2
    first
      | (go_end0; exact ⟨rfl, rfl⟩)
      | (refine bodyPost_end (v := .tuple #[]) (results_none rfl _ _ _) rfl ?_; exact ⟨rfl, rfl⟩)
  have h2 : ∀ z : Int, Calls Tryd.prog 36 #[.slice none 0 0, .int .i64 0, .int .i64 0, .int .i64 z] w fun e w' => e = .returned (.tuple #[]) ∧ w' = w := by
    intro z
    have H1 := Lib.hid h1
    clear h1
    go_enter Tryd.func36, Tryd.ntmps36
    go_wp2
    refine wp_loop_rounds 1 ?_
    rw [rounds_succ]
    go_wp2_with (go_at_call 46; with_reducible refine Calls.mono H1.out ?_; rintro e w' ⟨rfl, rfl⟩)
    refine bodyPost_ret (results_none rfl _ _ _) rfl ?_
    exact ⟨rfl, rfl⟩
  have H2 := Lib.hid h2
  have HL := Lib.hid (bitsLen_calls 0 w (by omega))
  clear h1 h2
  go_enter Tryd.func19, Tryd.ntmps19
  go_wp2_with (first
    | (go_at_call 37; with_reducible refine Calls.mono HL.out ?_; rintro e w' ⟨⟨z, rfl⟩, rfl⟩)
    | (go_at_call 36; with_reducible refine Calls.mono (H2.out _) ?_; rintro e w' ⟨rfl, rfl⟩))
  first
    | (go_end0; exact ⟨rfl, rfl⟩)
    | (refine bodyPost_end (v := .tuple #[]) (results_none rfl _ _ _) rfl ?_; exact ⟨rfl, rfl⟩)
theorem appendSeq_calls (Bs : Nat) (sv : Value) (zs : List ByteArray) (hlen : zs.length ≤ 1000) (w : World) (hBs : Bs < w.heap.size) (hc : w.cell? ⟨Bs, 0, none⟩ = some sv) (hI : Txs w.heap.size w sv zs) :
    Calls Tryd.prog 67 #[.slice none 0 0, .func (.func 59) #[] #[.pointer (some ⟨Bs, 0, none⟩)]] w fun e W' => ∃ v, e = .returned v ∧ W'.ownsRow w.heap.size 9 1 v zs.length (zs.map Value.string) ∧ Below w.heap.size w W' :=
  (callsIn_wide (n := 3)).1 (appendSeq_in Fence.wide 3 trivial trivial rfl (by omega) Bs sv zs hlen w hBs hc hI)
set_option maxRecDepth 100000 in
set_option maxHeartbeats 2000000 in
theorem Collect_calls (Bs : Nat) (sv : Value) (zs : List ByteArray) (hlen : zs.length ≤ 1000) (w : World) (hBs : Bs < w.heap.size) (hc : w.cell? ⟨Bs, 0, none⟩ = some sv) (hI : Txs w.heap.size w sv zs) :
    Calls Tryd.prog 58 #[.func (.func 59) #[] #[.pointer (some ⟨Bs, 0, none⟩)]] w fun e W' => ∃ v, e = .returned v ∧ W'.ownsRow w.heap.size 9 1 v zs.length (zs.map Value.string) ∧ Below w.heap.size w W' := by
  have H := Lib.hid (appendSeq_calls Bs sv zs hlen w hBs hc hI)
  clear hc hI
  go_enter Tryd.func58, Tryd.ntmps58
  go_wp2_with (go_at_call 67; with_reducible refine Calls.mono H.out ?_; rintro e w' ⟨v, rfl, hr, hb⟩; have HR := Lib.hid (And.intro hr hb); clear hr hb)
  go_ret
  exact ⟨_, rfl, HR.out.1, HR.out.2⟩
set_option maxRecDepth 100000 in
set_option maxHeartbeats 2000000 in
theorem Values_calls (a : Option Addr) (len cap : Nat) (w : World) :
    Calls Tryd.prog 41 #[.slice a len cap] w fun e w' => e = .returned (.func (.func 59) #[] #[.pointer (some ⟨w.heap.size, 0, none⟩)]) ∧ w' = w.alloc (.cells #[.slice a len cap] 35) := by
  go_enter Tryd.func41, Tryd.ntmps41
  go_wp2
  go_ret
  exact ⟨rfl, rfl⟩
set_option maxRecDepth 100000 in
set_option maxHeartbeats 4000000 in
theorem Sorted_calls (Bs : Nat) (sv : Value) (zs : List ByteArray) (hlen : zs.length ≤ 12) (w : World) (hBs : Bs < w.heap.size) (hc : w.cell? ⟨Bs, 0, none⟩ = some sv) (hI : Txs w.heap.size w sv zs) :
    Calls Tryd.prog 40 #[.func (.func 59) #[] #[.pointer (some ⟨Bs, 0, none⟩)]] w fun e W' => ∃ v, e = .returned v ∧ W'.ownsRow w.heap.size 9 1 v zs.length ((sortL (zs.map byL)).map encStr) ∧ Below w.heap.size w W' := by
  have H := Lib.hid (Collect_calls Bs sv zs (by omega) w hBs hc hI)
  clear hc hI
  go_enter Tryd.func40, Tryd.ntmps40
  go_wp2_with (first
    | (go_at_call 58; with_reducible refine Calls.mono H.out ?_; rintro e w' ⟨v, rfl, hr, hb⟩; have HR := Lib.hid (And.intro hr hb); clear hr hb; go_frame)
    | fail)
  rcases HR.out.1.2 with ⟨rfl, hz⟩ | ⟨gb, cap, cur, rfl, hbase, hgb, r1, r2, r3, r4⟩
  · have hzs : zs = [] := List.eq_nil_of_length_eq_zero hz
    subst hzs
    go_wp2_with (go_at_call 19; refine (Sort_nil _).mono ?_; rintro e w' ⟨rfl, rfl⟩)
    go_ret
    exact ⟨_, rfl, by simpa [sortL] using HR.out.1, HR.out.2⟩
  · obtain ⟨ss, hss⟩ : ∃ ss, ss = zs.map byL := ⟨_, rfl⟩
    have hsl : ss.length = zs.length := by rw [hss]; simp
    have hH : Holds encStr w' gb 0 ss.toArray := holds_of_block hgb (by rw [hsl, hss, map_enc]; simpa using r4)
    have HS := Lib.hid (Sort_calls gb 0 cap zs.length ss.toArray w' hH (by simp [hsl]) hlen)
    have HB := Lib.hid (And.intro hbase (And.intro hgb (And.intro r1 (And.intro r2 r3))))
    have HSS := Lib.hid hss
    clear hH hbase hgb r1 r2 r3 r4 hss
    go_wp2_with (go_at_call 19; with_reducible refine Calls.mono HS.out ?_; rintro e w2 ⟨rfl, k, rfl⟩)
    go_ret
    obtain ⟨hbase, hgb, r1, r2, r3⟩ := HB.out
    rw [← hsl, ins_sorted, ← HSS.out, ← ahead_grow (putRow _ _ _ _ _)]
    have hsl2 : (sortL ss).length = ss.length := by unfold sortL; simp
    exact ⟨_, rfl, ownsRow_sorted hsl2 hbase hgb (by omega) r2 r3, HR.out.2.grown (grownBy_sorted _) HR.out.2.size (fun j hj => by cases hj; exact hbase)⟩
end
end Go.Proofs.YtlbnemnadegapaaDoor.Ky
