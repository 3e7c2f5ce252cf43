/- Walks of a key set's methods that tell of its keys: Len, Key, Index; the conditions are on what lies in memory. -/
import Derived.Test.YtlbnemnadegapaaDoorKyMem
import Derived.Test.YtlbnemnadegapaaDoorProg
import Derived.Great.Walk
import Derived.RegionTactic
import Derived.StillTailTactics
import Derived.Deep.LoopGhost
import Derived.MapFrom
import Derived.Outline
import Derived.LaidEql
set_option linter.unusedVariables false
set_option linter.unusedSimpArgs false
namespace Go.Proofs.YtlbnemnadegapaaDoor.Ky
open Go.RowKit Go.Proofs.YtlbnemnadegapaaDoor.K
abbrev keyV (g : Nat) : Value := .iface 107 (.pointer (some ⟨g, 0, none⟩))
theorem isComp : (Tryd.prog.info? 107).map (·.comparable) = some true := by kernel_rfl
theorem isSize : (Tryd.prog.info? 144).map (·.size) = some 9 := by kernel_rfl
/-- The keys that there are: structs of their own. -/
def KeysIn (w : World) (G : List Nat) : Prop := ∀ x ∈ G, ∃ cs, Blk w x 144 cs
theorem keys_eq {a b : Nat} {W : World} {ca cb : Array Value} (ha : Blk W a 144 ca) (hb : Blk W b 144 cb) : Sem.run Tryd.prog (binOp .eql 87 (keyV a) (keyV b)) W = .ok (.bool (decide (a = b))) W := by
  obtain ⟨i, hi, hcmp⟩ := Option.map_eq_some_iff.1 isComp
  obtain ⟨j, hj, hjs⟩ := Option.map_eq_some_iff.1 isSize
  by_cases h : a = b
  · subst h
    rw [decide_eq_true rfl]
    exact run_eql_iface_ptr_same (P := Tryd.prog) W ⟨a, 0, none⟩ Tryd.underlying87 Tryd.underlying107 hi hcmp hj
  · rw [decide_eq_false h]
    exact run_eql_iface_ptr_other (P := Tryd.prog) W Tryd.underlying87 Tryd.underlying107 hi hcmp hj (by rw [hjs]; decide) (fun e => h (by injection e)) ha hb
/-- A set at g, whose keys are those at the blocks S; its map is block m. -/
def SetK (w : World) (base g : Nat) (v : Value) (m : Nat) (S : List Nat) : Prop := Blk w g 153 #[v, .map (some m)] ∧ KL w base 87 v (S.map keyV)
def ix (S : List Nat) (k : Nat) : Int := match S.findIdx? (· == k) with | some i => i | none => -1
theorem ix_not {S : List Nat} {k : Nat} (h : k ∉ S) : ix S k = -1 := by
  unfold ix
  rw [List.findIdx?_eq_none_iff.2 (fun x hx => by simp; rintro rfl; exact h hx)]
theorem ix_at {S : List Nat} {k j : Nat} (hj : j < S.length) (h : S[j] = k) (hb : ∀ i (hi : i < S.length), i < j → S[i] ≠ k) : ix S k = j := by
  unfold ix
  rw [List.findIdx?_eq_some_iff_getElem.2 ⟨hj, by simpa using h, fun i hi => by simpa using hb i (by omega) hi⟩]
section
variable {w : World} {base g m : Nat} {v : Value} {S : List Nat}
theorem SetK.cells (h : SetK w base g v m S) : w.cell? ⟨g, 0, none⟩ = some v ∧ w.cell? ⟨g, 1, none⟩ = some (.map (some m)) := ⟨by rw [h.1.cell]; rfl, by rw [h.1.cell]; rfl⟩
set_option maxRecDepth 100000 in
set_option maxHeartbeats 2000000 in
theorem indexNL_calls (h : SetK w base g v m S) (k : Nat) (hk : KeysIn w (k :: S)) (hn : S.length < 1000) :
    Calls Tryd.prog 134 #[.pointer (some ⟨g, 0, none⟩), keyV k] w fun e w' => e = .returned (.int .i64 (ix S k)) ∧ w = w' := by
  obtain ⟨c0, c1⟩ := h.cells
  obtain ⟨A, c, rfl, hlc, _⟩ := h.2.len
  have HK := Lib.hid h.2
  rw [List.length_map] at c0 hlc
  obtain ⟨n, hn2⟩ : ∃ n, n = S.length := ⟨_, rfl⟩
  rw [← hn2] at c0
  have HN := Lib.hid hn2
  clear h hlc hn2
  go_enter Tryd.func134, Tryd.ntmps134
  go_wp2
  go_loopg [12] n (fun q u wr => ∃ j : Nat, q + j = n ∧ u = .int .i64 j ∧ wr = w ∧ Hid (∀ i (hi : i < S.length), i < j → S[i] ≠ k))
  case atStart => exact ⟨0, rfl, rfl, rfl, Lib.hid (fun i _ h => absurd h (by omega))⟩
  case round =>
    obtain ⟨j, hqj, rfl, hw, HP⟩ := hrel
    subst hw
    by_cases hj : j < n
    · have hjl : j < S.length := by rw [← HN.out]; exact hj
      obtain ⟨b, off, c', he, hcell⟩ := HK.out.at_ (j := j) (by simpa using hjl)
      injection he with he1 he2 he3
      subst he1
      rw [List.getElem_map] at hcell
      obtain ⟨x, hx⟩ : ∃ x, x = S[j] := ⟨_, rfl⟩
      rw [← hx] at hcell
      obtain ⟨cx, hcx⟩ := hk x (List.mem_cons_of_mem _ (by rw [hx]; exact List.getElem_mem _))
      obtain ⟨ck, hck⟩ := hk k (by simp)
      have hke := keys_eq hcx hck
      have HX := Lib.hid hx
      clear hx he2 hcx hck
      by_cases hxk : x = k
      · rw [decide_eq_true hxk] at hke
        have HXK := Lib.hid hxk
        clear hxk
        go_wp2
        go_ret
        refine ⟨?_, rfl⟩
        rw [ix_at hjl (by rw [← HX.out]; exact HXK.out) HP.out]
        rfl
      · rw [decide_eq_false hxk] at hke
        have HXK := Lib.hid hxk
        clear hxk
        go_wp2
        go_roundg (n - (j + 1))
        case measure => omega
        case rel =>
          refine ⟨j + 1, by omega, by go_num, rfl, Lib.hid fun i hi hij => ?_⟩
          rcases Nat.lt_or_ge i j with h | h
          · exact HP.out i hi h
          · obtain rfl : i = j := by omega
            rw [← HX.out]; exact HXK.out
    · obtain rfl : j = n := by omega
      go_wp2
      go_ret
      refine ⟨?_, rfl⟩
      rw [ix_not (fun hm => by obtain ⟨i, hi, e⟩ := List.getElem_of_mem hm; exact HP.out i hi (by rw [HN.out]; exact hi) e)]
      rfl
set_option maxRecDepth 100000 in
theorem Index_calls (h : SetK w base g v m S) (k : Nat) (hk : KeysIn w (k :: S)) (hn : S.length < 1000) :
    Calls Tryd.prog 126 #[.pointer (some ⟨g, 0, none⟩), keyV k] w fun e w' => e = .returned (.int .i64 (ix S k)) ∧ w = w' := by
  have HI := Lib.hid (indexNL_calls h k hk hn)
  clear h hk
  go_enter Tryd.func126, Tryd.ntmps126
  go_wp2_with fail
  refine HI.out.mono ?_
  rintro e w1 ⟨rfl, rfl⟩
  go_wp2
  go_ret
  exact ⟨rfl, rfl⟩
set_option maxRecDepth 100000 in
theorem Len_calls (h : SetK w base g v m S) :
    Calls Tryd.prog 129 #[.pointer (some ⟨g, 0, none⟩)] w fun e w' => e = .returned (.int .i64 S.length) ∧ w = w' := by
  obtain ⟨c0, c1⟩ := h.cells
  obtain ⟨A, c, rfl, hlc, _⟩ := h.2.len
  rw [List.length_map] at c0
  clear h hlc
  go_enter Tryd.func129, Tryd.ntmps129
  go_wp2
  go_ret
  exact ⟨rfl, rfl⟩
set_option maxRecDepth 100000 in
theorem Key_yes (h : SetK w base g v m S) (j x : Nat) (hx : S[j]? = some x) (hn : S.length < 1000) :
    Calls Tryd.prog 127 #[.pointer (some ⟨g, 0, none⟩), .int .i64 j] w fun e w' => e = .returned (.tuple #[keyV x, .bool true]) ∧ w = w' := by
  obtain ⟨c0, c1⟩ := h.cells
  obtain ⟨A, c, rfl, hlc, _⟩ := h.2.len
  have HK := Lib.hid h.2
  rw [List.length_map] at c0
  obtain ⟨hjl, hxe⟩ := List.getElem?_eq_some_iff.1 hx
  obtain ⟨b, off, c', he, hcell⟩ := HK.out.at_ (j := j) (by simpa using hjl)
  injection he with he1 he2 he3
  subst he1
  rw [List.getElem_map, hxe] at hcell
  have hji : (j : Int) < (S.length : Int) := by omega
  have hj0 : (0 : Int) ≤ (j : Int) := by omega
  clear hx hxe he2 h hlc HK
  go_enter Tryd.func127, Tryd.ntmps127
  go_wp2
  exact bodyPost_ret (v := .tuple #[keyV x, .bool true]) (by kernel_rfl) rfl ⟨rfl, rfl⟩
set_option maxRecDepth 100000 in
theorem Key_no (h : SetK w base g v m S) (i : Int) (h1 : i < 0 ∨ (S.length : Int) ≤ i) :
    Calls Tryd.prog 127 #[.pointer (some ⟨g, 0, none⟩), .int .i64 i] w fun e w' => e = .returned (.tuple #[.nilIface, .bool false]) ∧ w = w' := by
  obtain ⟨c0, c1⟩ := h.cells
  obtain ⟨A, c, rfl, hlc, _⟩ := h.2.len
  rw [List.length_map] at c0
  clear h hlc
  by_cases hi : 0 ≤ i
  · have hji : ¬ i < (S.length : Int) := by omega
    clear h1
    go_enter Tryd.func127, Tryd.ntmps127
    go_wp2
    exact bodyPost_ret (v := .tuple #[.nilIface, .bool false]) (by kernel_rfl) rfl ⟨rfl, rfl⟩
  · have hi0 : decide (0 ≤ i) = false := decide_eq_false hi
    clear h1
    go_enter Tryd.func127, Tryd.ntmps127
    go_wp2
    exact bodyPost_ret (v := .tuple #[.nilIface, .bool false]) (by kernel_rfl) rfl ⟨rfl, rfl⟩
end
end Go.Proofs.YtlbnemnadegapaaDoor.Ky
