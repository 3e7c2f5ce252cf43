/- A list of operations as texts; the conditions are on what lies in memory. -/
import Derived.Test.YtlbnemnadegapaaDoorKfStep
import Derived.Test.YtlbnemnadegapaaDoorKfKeys
import Derived.Deep.LoopGhost
set_option linter.unusedVariables false
set_option linter.unusedSimpArgs false
namespace Go.Proofs.YtlbnemnadegapaaDoor.Kf
open Go.RowKit Go.Proofs.YtlbnemnadegapaaDoor.K Go.Proofs.YtlbnemnadegapaaDoor.Nm Go.Proofs.YtlbnemnadegapaaDoor.Ky
/-- One text more at the end of a row of texts of one's own. -/
theorem own_app {ops : Array Oper} {rest : List Oper} {o : Oper} {a : Act} {Q : Exit → Act → World → Prop} {B : Nat} {w : World} {n c : Nat} {A : Option Addr} {xs : List Value} {s : ByteArray} {i0 : TypeInfo}
    (h : w.ownsRow B 9 1 (.slice A n c) n xs) (hB : B ≤ w.heap.size) (HI : Tryd.prog.info? 9 = some i0 ∧ i0.zero = some (.string ByteArray.empty) ∧ i0.size = 1 ∧ i0.bytes = 16) (hn : n < 10000) (hgd : o.guard = none) (s1 s2 : Operand)
    (ho : o.op = .call { callee := .builtin .append, args := #[s1, s2], argTypes := #[35, 35] }) (hs : a.eval s1 = .slice A n c) (he : a.eval s2 = .slice (some ⟨w.heap.size, 0, none⟩) 1 1)
    (hq : ∀ A' c' w8, w8.ownsRow B 9 1 (.slice A' (n + 1) c') (n + 1) (xs ++ [.string s]) → Below B w w8 → Fr (· = 9) w w8 → wpList Tryd.prog ops Q rest (a.put o.dst (.slice A' (n + 1) c')) w8) : wpList Tryd.prog ops Q (o :: rest) a (w.alloc (.cells #[.string s] 9)) := by
  have h1' : (w.alloc (.cells #[.string s] 9)).ownsRow B 9 1 (.slice A n c) n xs := own_keep h (fun j cs hb => hb.alloc _)
  have hsz' : B ≤ (w.alloc (.cells #[.string s] 9)).heap.size := by simp only [World.size_alloc]; omega
  refine wpList_append_own _ hgd s1 s2 35 ho B 9 i0 (.string ByteArray.empty) 1 16 Tryd.underlying35 HI.1 HI.2.1 HI.2.2.1 HI.2.2.2 rfl (by decide) _ n xs hs h1' ⟨w.heap.size, 0, none⟩ 1 1 [.string s] he rfl (one_new _ _ _) (by intro u hu; rw [List.mem_singleton.1 hu]; rfl) (by unfold maxLen; omega) (by omega) hsz' ?_
  intro v' w8 hown hg _
  obtain ⟨A', c', rfl⟩ := own_slice hown
  exact hq A' c' w8 hown (((Below.refl B w).alloc hB _).trans (own_low h1' hg hsz')) ((Fr.alloc w _).trans (own_fr h1' hg))
section
variable {w w' : World}
set_option maxRecDepth 100000 in
set_option maxHeartbeats 4000000 in
theorem operations_calls (w : World) (A : Option Addr) (n c : Nat) (l : List ByteArray) (h : SLt w A n l) (hn : n ≤ 1000) :
    Calls Tryd.prog 45 #[.slice A n c] w fun e w' => ∃ A' c', e = .returned (.slice A' n c') ∧ w'.ownsRow w.heap.size 9 1 (.slice A' n c') n (l.map Value.string) ∧ Below w.heap.size w w' := by
  obtain ⟨i0, hi, hz0, hz1, hz2⟩ := info_parts infoStr
  have HI := Lib.hid (And.intro hi (And.intro hz0 (And.intro hz1 hz2)))
  have HL := Lib.hid h.len
  have HB := Lib.hid h
  clear hi hz0 hz1 hz2 h
  go_enter Tryd.func45, Tryd.ntmps45
  go_wp2_with fail
  have HR0 := Lib.hid (show w.ownsRow w.heap.size 9 1 (.slice none 0 0) 0 ((l.take 0).map Value.string) ∧ Below w.heap.size w w from ⟨⟨rfl, .inl ⟨rfl, rfl⟩⟩, Below.refl _ _⟩)
  go_loopg [8, 3] n (fun q u u3 wr => ∃ (j : Nat) (OA : Option Addr) (Oc : Nat), q + j = n ∧ u = .int .i64 (j : Nat) ∧ u3 = .slice OA j Oc ∧ Hid (wr.ownsRow w.heap.size 9 1 (.slice OA j Oc) j ((l.take j).map Value.string) ∧ Below w.heap.size w wr))
  case atStart => exact ⟨0, none, 0, rfl, rfl, rfl, HR0⟩
  case round =>
    obtain ⟨j, OA, Oc, hqj, rfl, rfl, HH⟩ := hrel
    clear HR0
    by_cases hj : j < n
    · have hjl : (j : Int) < (n : Int) := by omega
      have hjs : j < l.length := by have := HL.out; omega
      obtain ⟨ad, hA, c0⟩ := (HB.out.below HH.out.2).at_ hjs
      subst hA
      obtain ⟨e, he⟩ : ∃ e, e = l[j] := ⟨_, rfl⟩
      rw [← he] at c0
      have HE := Lib.hid (show (l.take (j + 1)).map Value.string = (l.take j).map Value.string ++ [.string e] from by rw [he, List.take_add_one, List.getElem?_eq_getElem hjs, List.map_append]; rfl)
      clear he
      go_wp2_with (at_builtin; refine own_app HH.out.1 HH.out.2.size HI.out (by omega) rfl _ _ rfl rfl rfl ?_; intro vA vc w8 hown hbl _; have HF := Lib.hid (And.intro hown (HH.out.2.trans hbl)); clear hown hbl)
      go_roundg (n - (j + 1))
      case measure => omega
      case rel => exact ⟨j + 1, vA, vc, by omega, by go_num, rfl, by rw [← HE.out] at HF; exact HF⟩
    · have hjl : ¬ (j : Int) < (n : Int) := by omega
      obtain rfl : j = n := by omega
      go_wp2_with fail
      go_ret
      refine ⟨OA, Oc, rfl, ?_, HH.out.2⟩
      have := HH.out.1
      rwa [List.take_of_length_le (by have := HL.out; omega)] at this
end
end Go.Proofs.YtlbnemnadegapaaDoor.Kf
