/- The walk of KeyRun's function literal: the place of a key; the conditions are on what lies in memory. -/
import Derived.Test.YtlbnemnadegapaaDoorKySet7
set_option linter.unusedVariables false
set_option linter.unusedSimpArgs false
namespace Go.Proofs.YtlbnemnadegapaaDoor.Ky
open Go.RowKit Go.Proofs.YtlbnemnadegapaaDoor.K
/-- The variable that holds all keys. -/
def KeysAt (w : World) (b0 p : Nat) (K : List Nat) : Prop := ∃ v, Blk w p 84 #[v] ∧ KL w b0 87 v (K.map keyV)
section
variable {w w' : World} {b0 p : Nat} {K : List Nat}
theorem KeysAt.below {B : Nat} (h : KeysAt w b0 p K) (hb : Below w.heap.size w w') : KeysAt w' b0 p K := by
  obtain ⟨v, h1, h2⟩ := h
  exact ⟨v, h1.below hb h1.lt, h2.below hb⟩
set_option maxRecDepth 100000 in
set_option maxHeartbeats 2000000 in
theorem place_calls (h : KeysAt w b0 p K) (k : Nat) (hk : KeysIn w (k :: K)) (hn : K.length < 1000) :
    Calls Tryd.prog 38 #[keyV k, .pointer (some ⟨p, 0, none⟩)] w fun e w' => e = .returned (.int .i64 (ix K k)) ∧ w = w' := by
  obtain ⟨v, h1, h2⟩ := h
  have c0 : w.cell? ⟨p, 0, none⟩ = some v := by rw [h1.cell]; rfl
  obtain ⟨A, c, rfl, hlc, _⟩ := h2.len
  have HK := Lib.hid h2
  rw [List.length_map] at c0 hlc
  obtain ⟨n, hn2⟩ : ∃ n, n = K.length := ⟨_, rfl⟩
  rw [← hn2] at c0
  have HN := Lib.hid hn2
  clear h1 h2 hlc hn2
  go_enter Tryd.func38, Tryd.ntmps38
  go_wp2
  go_loopg [8] n (fun q u wr => ∃ j : Nat, q + j = n ∧ u = .int .i64 j ∧ wr = w ∧ Hid (∀ i (hi : i < K.length), i < j → K[i] ≠ k))
  case atStart => exact ⟨0, rfl, rfl, rfl, Lib.hid (fun i _ h => absurd h (by omega))⟩
  case round =>
    obtain ⟨j, hqj, rfl, hw, HP⟩ := hrel
    subst hw
    by_cases hj : j < n
    · have hjl : j < K.length := by rw [← HN.out]; exact hj
      obtain ⟨b, off, c', he, hcell⟩ := HK.out.at_ (j := j) (by simpa using hjl)
      injection he with he1 he2 he3
      subst he1
      rw [List.getElem_map] at hcell
      obtain ⟨x, hx⟩ : ∃ x, x = K[j] := ⟨_, rfl⟩
      rw [← hx] at hcell
      obtain ⟨cx, hcx⟩ := hk x (List.mem_cons_of_mem _ (by rw [hx]; exact List.getElem_mem _))
      obtain ⟨ck, hck⟩ := hk k (by simp)
      have hke := keys_eq hcx hck
      have HX := Lib.hid hx
      clear hx he2 hcx hck
      by_cases hxk : x = k
      · rw [decide_eq_true hxk] at hke
        have HXK := Lib.hid hxk
        clear hxk
        go_wp2
        go_ret
        refine ⟨?_, rfl⟩
        rw [ix_at hjl (by rw [← HX.out]; exact HXK.out) HP.out]
        rfl
      · rw [decide_eq_false hxk] at hke
        have HXK := Lib.hid hxk
        clear hxk
        go_wp2
        go_roundg (n - (j + 1))
        case measure => omega
        case rel =>
          refine ⟨j + 1, by omega, by go_num, rfl, Lib.hid fun i hi hij => ?_⟩
          rcases Nat.lt_or_ge i j with h | h
          · exact HP.out i hi h
          · obtain rfl : i = j := by omega
            rw [← HX.out]; exact HXK.out
    · obtain rfl : j = n := by omega
      go_wp2
      go_ret
      refine ⟨?_, rfl⟩
      rw [ix_not (fun hm => by obtain ⟨i, hi, e⟩ := List.getElem_of_mem hm; exact HP.out i hi (by rw [HN.out]; exact hi) e)]
      rfl
end
end Go.Proofs.YtlbnemnadegapaaDoor.Ky
