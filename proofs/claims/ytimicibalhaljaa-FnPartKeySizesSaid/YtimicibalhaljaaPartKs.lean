/- Walks of the sizes of keys for a key agreement; no condition. -/
import Derived.Test.YtimicibalhaljaaPartAwake
import Derived.Test.YtimicibalhaljaaB64Guess
import Derived.WalkLawsBesides
import Derived.BigQuiet
import Derived.Deep.QuietTactic
set_option linter.unusedVariables false
set_option linter.unusedSimpArgs false
namespace Go.Proofs.Ytimicibalhaljaa.B64
open Go.RowKit Go.Proofs.Ytimicibalhaljaa.K Go.Proofs.Ytimicibalhaljaa.Own
/-- The size of a content encryption's key; 0 of others. -/
def csz (l : List UInt8) : Nat :=
  if l == [65, 49, 50, 56, 71, 67, 77] then 16
  else if l == [65, 49, 57, 50, 71, 67, 77] then 24
  else if l == [65, 50, 53, 54, 71, 67, 77] then 32
  else if l == [65, 49, 50, 56, 67, 66, 67, 45, 72, 83, 50, 53, 54] then 32
  else if l == [65, 49, 57, 50, 67, 66, 67, 45, 72, 83, 51, 56, 52] then 48
  else if l == [65, 50, 53, 54, 67, 66, 67, 45, 72, 83, 53, 49, 50] then 64
  else 0
/-- The size of a key wrap's key; 0 of others. -/
def kwsz (l : List UInt8) : Nat :=
  if l == [69, 67, 68, 72, 45, 69, 83, 43, 65, 49, 50, 56, 75, 87] then 16
  else if l == [69, 67, 68, 72, 45, 69, 83, 43, 65, 49, 57, 50, 75, 87] then 24
  else if l == [69, 67, 68, 72, 45, 69, 83, 43, 65, 50, 53, 54, 75, 87] then 32
  else 0
def ES : List UInt8 := [69, 67, 68, 72, 45, 69, 83]
theorem ret_u32 {a b : Nat} (h : a = b) : Ending.returned (.int .u32 (a : Nat)) = .returned (.int .u32 (b : Nat)) := by rw [h]
theorem PartContentSize_calls (w : World) (s : ByteArray) : Calls Try.prog 30 #[.string s] w fun e w' => e = .returned (.int .u32 (csz s.toList : Nat)) ∧ w = w' := by
  obtain ⟨z, hz⟩ : ∃ z, z = csz s.toList := ⟨_, rfl⟩
  have HZ := Lib.hid hz
  rw [← hz]
  clear hz
  go_enter Try.func30, Try.ntmps30
  go_wp2
  all_goals
    go_ret
    refine ⟨?_, rfl⟩
    first
      | (exfalso; simp_all; done)
      | exact congrArg (fun z : Nat => Ending.returned (.int .u32 (z : Int))) (Eq.symm (HZ.out.trans (by simp_all [csz])))
def CsPost (w : World) (l : List UInt8) (e : Ending) (w' : World) : Prop := Below w.heap.size w w' ∧ ((0 < csz l ∧ e = .returned (.tuple #[.int .u32 (csz l : Nat), .nilIface])) ∨ (csz l = 0 ∧ ∃ T v, e = .returned (.tuple #[.int .u32 0, .iface T v])))
theorem CsPost.mk {w w' : World} {l : List UInt8} {n : Nat} (h : csz l = n) (hn : 0 < n) (hB : Below w.heap.size w w') : CsPost w l (.returned (.tuple #[.int .u32 (n : Nat), .nilIface])) w' := ⟨hB, .inl ⟨by omega, by rw [h]⟩⟩
set_option maxHeartbeats 1000000 in
theorem contentSize_calls (w : World) (s : ByteArray) : Calls Try.prog 47 #[.string s] w (CsPost w s.toList) := by
  go_enter Try.func47, Try.ntmps47
  go_wp2_with (go_at_call 46; refine (errorsNew_calls w _).mono ?_; rintro e w1 ⟨⟨T, v, rfl⟩, hB⟩)
  all_goals
    go_ret2
    first
      | exact CsPost.mk (n := 16) (by simp_all [csz]) (by decide) (Below.refl _ _)
      | exact CsPost.mk (n := 24) (by simp_all [csz]) (by decide) (Below.refl _ _)
      | exact CsPost.mk (n := 32) (by simp_all [csz]) (by decide) (Below.refl _ _)
      | exact CsPost.mk (n := 48) (by simp_all [csz]) (by decide) (Below.refl _ _)
      | exact CsPost.mk (n := 64) (by simp_all [csz]) (by decide) (Below.refl _ _)
      | exact ⟨by assumption, .inr ⟨by simp_all [csz], _, _, rfl⟩⟩
def KsPost (w : World) (a c : ByteArray) (e : Ending) (w' : World) : Prop :=
  Below w.heap.size w w' ∧
  (((a.toList == ES) = true ∧ 0 < csz c.toList ∧ e = .returned (.tuple #[.string c, .int .u32 (csz c.toList : Nat), .bool false, .nilIface])) ∨
   ((a.toList == ES) = false ∧ 0 < kwsz a.toList ∧ e = .returned (.tuple #[.string a, .int .u32 (kwsz a.toList : Nat), .bool true, .nilIface])) ∨
   ((((a.toList == ES) = true ∧ csz c.toList = 0) ∨ ((a.toList == ES) = false ∧ kwsz a.toList = 0)) ∧ ∃ (s : ByteArray) (n : Int) (b : Bool) (T : TypeId) (v : Value), e = .returned (.tuple #[.string s, .int .u32 n, .bool b, .iface T v])))
set_option maxHeartbeats 1000000 in
theorem KeyEnc_calls (w : World) (a c : ByteArray) : Calls Try.prog 43 #[.string a, .string c] w (KsPost w a c) := by
  have HC := Lib.hid (contentSize_calls w c)
  by_cases hes : (a.toList == ES) = true
  · have hes' : (a.toList == [69, 67, 68, 72, 45, 69, 83]) = true := hes
    have HES := Lib.hid hes
    clear hes
    go_enter Try.func43, Try.ntmps43
    go_wp2_with fail
    refine HC.out.mono ?_
    rintro e w1 ⟨hB, ⟨hp, rfl⟩ | ⟨hz, T, v, rfl⟩⟩
    · have HP := Lib.hid hp
      have HB := Lib.hid hB
      clear hp hB
      obtain ⟨n, hn⟩ : ∃ n, n = csz c.toList := ⟨_, rfl⟩
      rw [← hn]
      have HN := Lib.hid hn
      clear hn
      go_wp2
      refine bodyPost_ret (v := .tuple #[.string c, .int .u32 (n : Nat), .bool false, .nilIface]) (by kernel_rfl) rfl ⟨HB.out, .inl ⟨HES.out, HP.out, by rw [HN.out]⟩⟩
    · have HZ := Lib.hid hz
      have HB := Lib.hid hB
      clear hz hB
      go_wp2
      exact bodyPost_ret (v := .tuple #[.string ⟨#[]⟩, .int .u32 0, .bool false, .iface T v]) (by kernel_rfl) rfl ⟨HB.out, .inr (.inr ⟨.inl ⟨HES.out, HZ.out⟩, _, _, _, _, _, rfl⟩)⟩
  · have hes' : (a.toList == [69, 67, 68, 72, 45, 69, 83]) = false := by simpa [ES] using hes
    have HES : Hid ((a.toList == ES) = false) := Lib.hid hes'
    clear hes
    go_enter Try.func43, Try.ntmps43
    go_wp2_with (go_at_call 46; refine (errorsNew_calls w _).mono ?_; rintro e w1 ⟨⟨T, v, rfl⟩, hB⟩)
    all_goals
      first
        | (refine (fun hk : kwsz a.toList = 16 => ?_) ?_
           · exact bodyPost_ret (v := .tuple #[.string a, .int .u32 16, .bool true, .nilIface]) (by kernel_rfl) rfl ⟨Below.refl _ _, .inr (.inl ⟨HES.out, by rw [hk]; decide, by rw [hk]; rfl⟩)⟩
           · (simp_all [kwsz]; done))
        | (refine (fun hk : kwsz a.toList = 24 => ?_) ?_
           · exact bodyPost_ret (v := .tuple #[.string a, .int .u32 24, .bool true, .nilIface]) (by kernel_rfl) rfl ⟨Below.refl _ _, .inr (.inl ⟨HES.out, by rw [hk]; decide, by rw [hk]; rfl⟩)⟩
           · (simp_all [kwsz]; done))
        | (refine (fun hk : kwsz a.toList = 32 => ?_) ?_
           · exact bodyPost_ret (v := .tuple #[.string a, .int .u32 32, .bool true, .nilIface]) (by kernel_rfl) rfl ⟨Below.refl _ _, .inr (.inl ⟨HES.out, by rw [hk]; decide, by rw [hk]; rfl⟩)⟩
           · (simp_all [kwsz]; done))
        | (refine (fun hk : kwsz a.toList = 0 => ?_) ?_
           · exact bodyPost_ret (v := .tuple #[.string ⟨#[]⟩, .int .u32 0, .bool false, .iface T v]) (by kernel_rfl) rfl ⟨hB, .inr (.inr ⟨.inr ⟨HES.out, hk⟩, _, _, _, _, _, rfl⟩)⟩
           · (simp_all [kwsz]; done))
end Go.Proofs.Ytimicibalhaljaa.B64
