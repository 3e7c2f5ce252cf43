/- The walk of slices.Clone over fields; what further fields of another kind change: nothing. -/
import Derived.Test.YtlahgmfpdfblkaaGreatClTexts
import Derived.Test.YtlahgmfpdfblkaaGreatClMany
import Derived.Test.YtlahgmfpdfblkaaGreatClEq
set_option linter.unusedVariables false
set_option linter.unusedSimpArgs false
namespace Go.Proofs.YtlahgmfpdfblkaaGreat.Cl
open Go.RowKit Go.Proofs.YtlahgmfpdfblkaaGreat.K
def zF : Value := .agg #[.string ByteArray.empty, .int .i64 0, .string ByteArray.empty, .bool false, .int .i32 0, .slice none 0 0]
theorem info_fd : (Tryz.prog.info? 36).map (fun i => (i.zero, i.size, i.bytes)) = some (some zF, 6, 72) := by kernel_rfl
theorem fc_one (f : Fd) : ∀ u ∈ fc f, u.oneCell' = true := by
  intro u hu
  simp only [fc, List.mem_cons, List.not_mem_nil, or_false] at hu
  rcases hu with rfl | rfl | rfl | rfl | rfl | rfl <;> rfl
theorem fvs_one : ∀ fs : List Fd, ∀ u ∈ fvs fs, u.oneCell' = true
  | [], u, hu => by cases hu
  | f :: r, u, hu => by
    rw [fvs, List.mem_append] at hu
    rcases hu with hu | hu
    · exact fc_one f u hu
    · exact fvs_one r u hu
def FCPost (w : World) (n : Nat) (fs : List Fd) (e : Ending) (w' : World) : Prop := ∃ v, e = .returned v ∧ w'.ownsRow w.heap.size 36 6 v n (fvs fs) ∧ Below w.heap.size w w'
set_option maxHeartbeats 1000000 in
theorem FClone_calls (w : World) (A : Option Addr) (n c : Nat) (fs : List Fd) (h : FL w A n fs) (hn : n ≤ 100000) :
    Calls Tryz.prog 10 #[.slice A n c] w (FCPost w n fs) := by
  obtain ⟨i0, hi, hz0, hz1, hz2⟩ := info_parts info_fd
  have hnil := fun W : World => Lib.run_eql_slice_nil (P := Tryz.prog) W 22 36 A n c 0 0 Tryz.underlying22
  rcases A with _ | ad
  · have h0 : n = 0 := by
      rcases Nat.eq_zero_or_pos n with h0 | h0
      · exact h0
      · obtain ⟨_, h1, _⟩ := h.1.2 h0
        cases h1
    subst h0
    have hf : fs = [] := List.eq_nil_of_length_eq_zero h.len.symm
    subst hf
    clear h
    go_enter Tryz.func10, Tryz.ntmps10
    go_wp2
    go_ret
    exact ⟨_, rfl, World.ownsRow_nil _ _ _ _, Below.refl _ _⟩
  · have HR := Lib.hid (h.1.below ((Below.refl w.heap.size w).alloc (Nat.le_refl _) (.cells #[] 36)) (Nat.le_refl _))
    clear h
    go_enter Tryz.func10, Tryz.ntmps10
    go_wp2_with (at_builtin; refine wpList_append_any _ rfl (.tmp 5) (.tmp 6) 22 rfl w.heap.size 36 i0 zF 6 72 Tryz.underlying22 hi hz0 hz1 hz2 rfl (by decide) (.slice (some ⟨w.heap.size, 0, none⟩) 0 0) 0 [] rfl (own_empty w 36 6) (some ad) n c (fvs fs) rfl HR.out (fvs_one fs) (by unfold maxLen; omega) (by omega) (by simp) ?_; intro v3 w3 hown hg hat; rw [Nat.zero_add, List.nil_append] at hown; have HO3 := Lib.hid hown; have HG := Lib.hid hg; clear hown hg hat)
    go_ret
    exact ⟨_, rfl, HO3.out, ((Below.refl w.heap.size w).alloc (Nat.le_refl _) _).grown HG.out (by simp) (by intro k hk; simp [Value.ownBlock] at hk; omega)⟩
theorem stF_more (fs ex : List Fd) (st : St) (h : ∀ f ∈ ex, f.k ≠ 0) : stF (fs ++ ex) st = stF fs st := by
  unfold stF
  rw [List.foldl_append]
  generalize List.foldl _ st fs = s
  induction ex generalizing s with
  | nil => rfl
  | cons f r ih =>
    rw [List.foldl_cons]
    have e : upd f.name (oF f) s = s := by rw [oF, if_neg (h f (by simp))]; rfl
    rw [e]
    exact ih (fun g hg => h g (by simp [hg])) s
end Go.Proofs.YtlahgmfpdfblkaaGreat.Cl
