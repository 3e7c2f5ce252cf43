/- Walks of impl.KeySizeOf and the reference's PartKeySize, and of the laws on key sizes; no condition. -/
import Derived.Test.YtimicibalhaljaaPartKs
set_option linter.unusedVariables false
set_option linter.unusedSimpArgs false
namespace Go.Proofs.Ytimicibalhaljaa.B64
open Go.RowKit Go.Proofs.Ytimicibalhaljaa.K Go.Proofs.Ytimicibalhaljaa.Own
theorem below_drewN' {w w1 : World} (h : Below w.heap.size w w1) (n : Nat) : Below w.heap.size w (w1.drewN n) := K.below_drewN h n
def KsI (w : World) (a c : ByteArray) (e : Ending) (w' : World) : Prop :=
  Below w.heap.size w w' ∧
  (((a.toList == ES) = true ∧ 0 < csz c.toList ∧ e = .returned (.tuple #[.string c, .int .u32 (csz c.toList : Nat), .bool false, .bool true])) ∨
   ((a.toList == ES) = false ∧ 0 < kwsz a.toList ∧ e = .returned (.tuple #[.string a, .int .u32 (kwsz a.toList : Nat), .bool true, .bool true])) ∨
   ((((a.toList == ES) = true ∧ csz c.toList = 0) ∨ ((a.toList == ES) = false ∧ kwsz a.toList = 0)) ∧ ∃ (s : ByteArray) (n : Int) (b : Bool), e = .returned (.tuple #[.string s, .int .u32 n, .bool b, .bool false])))
set_option maxHeartbeats 1000000 in
theorem KeySizeOf_calls (w : World) (a c : ByteArray) : Calls Try.prog 28 #[.string a, .string c] w (KsI w a c) := by
  have HC := Lib.hid (KeyEnc_calls w a c)
  go_enter Try.func28, Try.ntmps28
  go_wp2_with fail
  refine HC.out.mono ?_
  rintro e w1 ⟨hB, ⟨h1, h2, rfl⟩ | ⟨h1, h2, rfl⟩ | ⟨h1, s, n, b, T, v, rfl⟩⟩
  · have HB := Lib.hid hB
    have H1 := Lib.hid (And.intro h1 h2)
    clear hB h1 h2
    obtain ⟨n, hn⟩ : ∃ n, n = csz c.toList := ⟨_, rfl⟩
    rw [← hn]
    have HN := Lib.hid hn
    clear hn
    go_wp2
    go_quiet (fail)
    go_wp2
    exact bodyPost_ret (v := .tuple #[.string c, .int .u32 (n : Nat), .bool false, .bool true]) (by kernel_rfl) rfl ⟨below_drewN' HB.out nq, .inl ⟨H1.out.1, H1.out.2, by rw [HN.out]⟩⟩
  · have HB := Lib.hid hB
    have H1 := Lib.hid (And.intro h1 h2)
    clear hB h1 h2
    obtain ⟨n, hn⟩ : ∃ n, n = kwsz a.toList := ⟨_, rfl⟩
    rw [← hn]
    have HN := Lib.hid hn
    clear hn
    go_wp2
    go_quiet (fail)
    go_wp2
    exact bodyPost_ret (v := .tuple #[.string a, .int .u32 (n : Nat), .bool true, .bool true]) (by kernel_rfl) rfl ⟨below_drewN' HB.out nq, .inr (.inl ⟨H1.out.1, H1.out.2, by rw [HN.out]⟩)⟩
  · have HB := Lib.hid hB
    have H1 := Lib.hid h1
    clear hB h1
    go_wp2
    go_quiet (fail)
    go_wp2
    exact bodyPost_ret (v := .tuple #[.string s, .int .u32 n, .bool b, .bool false]) (by kernel_rfl) rfl ⟨below_drewN' HB.out nq, .inr (.inr ⟨H1.out, _, _, _, rfl⟩)⟩
def KsS (w : World) (a c : ByteArray) (e : Ending) (w' : World) : Prop :=
  w = w' ∧
  (((a.toList == ES) = true ∧ 0 < csz c.toList ∧ e = .returned (.tuple #[.string c, .int .u32 (csz c.toList : Nat), .bool false, .bool true])) ∨
   ((a.toList == ES) = false ∧ 0 < kwsz a.toList ∧ e = .returned (.tuple #[.string a, .int .u32 (kwsz a.toList : Nat), .bool true, .bool true])) ∨
   ((((a.toList == ES) = true ∧ csz c.toList = 0) ∨ ((a.toList == ES) = false ∧ kwsz a.toList = 0)) ∧ ∃ (s : ByteArray) (n : Int) (b : Bool), e = .returned (.tuple #[.string s, .int .u32 n, .bool b, .bool false])))
set_option maxHeartbeats 1000000 in
theorem PartKeySize_calls (w : World) (a c : ByteArray) : Calls Try.prog 29 #[.string a, .string c] w (KsS w a c) := by
  have HC := Lib.hid (PartContentSize_calls w c)
  by_cases hes : (a.toList == ES) = true
  · have hes' : (a.toList == [69, 67, 68, 72, 45, 69, 83]) = true := hes
    have HES := Lib.hid hes
    clear hes
    go_enter Try.func29, Try.ntmps29
    go_wp2_with fail
    refine HC.out.mono ?_
    rintro e w1 ⟨rfl, rfl⟩
    obtain ⟨n, hn⟩ : ∃ n, n = csz c.toList := ⟨_, rfl⟩
    rw [← hn]
    have HN := Lib.hid hn
    clear hn
    by_cases hp : 0 < n
    · have hpi : (0 : Int) < (n : Int) := by omega
      go_wp2
      exact bodyPost_ret (v := .tuple #[.string c, .int .u32 (n : Nat), .bool false, .bool true]) (by simp [results, go_sem, hp]) rfl ⟨rfl, .inl ⟨HES.out, by rw [← HN.out]; exact hp, by rw [HN.out]⟩⟩
    · obtain rfl : n = 0 := by omega
      go_wp2
      exact bodyPost_ret (v := .tuple #[.string c, .int .u32 0, .bool false, .bool false]) (by kernel_rfl) rfl ⟨rfl, .inr (.inr ⟨.inl ⟨HES.out, HN.out.symm⟩, _, _, _, rfl⟩)⟩
  · have hes' : (a.toList == [69, 67, 68, 72, 45, 69, 83]) = false := by simpa [ES] using hes
    have HES : Hid ((a.toList == ES) = false) := Lib.hid hes'
    clear hes
    go_enter Try.func29, Try.ntmps29
    go_wp2
    all_goals
      first
        | (refine (fun hk : kwsz a.toList = 16 => ?_) ?_
           · exact bodyPost_ret (v := .tuple #[.string a, .int .u32 16, .bool true, .bool true]) (by kernel_rfl) rfl ⟨rfl, .inr (.inl ⟨HES.out, by rw [hk]; decide, by rw [hk]; rfl⟩)⟩
           · (simp_all [kwsz]; done))
        | (refine (fun hk : kwsz a.toList = 24 => ?_) ?_
           · exact bodyPost_ret (v := .tuple #[.string a, .int .u32 24, .bool true, .bool true]) (by kernel_rfl) rfl ⟨rfl, .inr (.inl ⟨HES.out, by rw [hk]; decide, by rw [hk]; rfl⟩)⟩
           · (simp_all [kwsz]; done))
        | (refine (fun hk : kwsz a.toList = 32 => ?_) ?_
           · exact bodyPost_ret (v := .tuple #[.string a, .int .u32 32, .bool true, .bool true]) (by kernel_rfl) rfl ⟨rfl, .inr (.inl ⟨HES.out, by rw [hk]; decide, by rw [hk]; rfl⟩)⟩
           · (simp_all [kwsz]; done))
        | (refine (fun hk : kwsz a.toList = 0 => ?_) ?_
           · exact bodyPost_ret (v := .tuple #[.string ⟨#[]⟩, .int .u32 0, .bool false, .bool false]) (by kernel_rfl) rfl ⟨rfl, .inr (.inr ⟨.inr ⟨HES.out, hk⟩, _, _, _, rfl⟩)⟩
           · (simp_all [kwsz]; done))
end Go.Proofs.Ytimicibalhaljaa.B64
