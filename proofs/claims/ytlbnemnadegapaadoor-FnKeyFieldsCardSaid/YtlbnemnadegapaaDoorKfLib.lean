/- Functions of Go's library over texts and bytes: what they answer; the conditions are on lengths. -/
import Derived.Test.YtlbnemnadegapaaDoorKfOpn
import Derived.BigQuiet
set_option linter.unusedVariables false
set_option linter.unusedSimpArgs false
namespace Go.Proofs.YtlbnemnadegapaaDoor.Kf
open Go.RowKit Go.Proofs.YtlbnemnadegapaaDoor.K Go.Proofs.YtlbnemnadegapaaDoor.Nm Go.Proofs.YtlbnemnadegapaaDoor.Ky
theorem str_ne {x y : ByteArray} (h : x ≠ y) : (x.toList == y.toList) = false := by
  rw [beq_eq_false_iff_ne]
  intro e
  rw [ByteArray.toList_eq, ByteArray.toList_eq] at e
  exact h (Go.WideShapes.bytes_inj e)
section
variable {w w' : World}
set_option maxRecDepth 100000 in
set_option maxHeartbeats 1000000 in
theorem TIndex_calls (w : World) (A : Option Addr) (n c : Nat) (l : List ByteArray) (x : ByteArray) (h : SLt w A n l) (hn : n ≤ 100000) :
    Calls Tryd.prog 33 #[.slice A n c, .string x] w fun e w' => (∃ i : Int, e = .returned (.int .i64 i) ∧ (0 ≤ i ↔ x ∈ l)) ∧ w = w' := by
  have HLN := Lib.hid h.len
  go_enter Tryd.func33, Tryd.ntmps33
  go_wp2
  go_loopg [8] n (fun q u wr => ∃ j : Nat, q + j = n ∧ u = .int .i64 j ∧ wr = w ∧ Hid (∀ y ∈ l.take j, y ≠ x))
  case atStart => exact ⟨0, rfl, rfl, rfl, Lib.hid (by simp)⟩
  case round =>
    obtain ⟨j, hqj, rfl, hw, HP⟩ := hrel
    subst hw
    by_cases hj : j < n
    · have hjl : j < l.length := by have := HLN.out; omega
      obtain ⟨ad, rfl, hc1⟩ := h.at_ hjl
      obtain ⟨y, hy⟩ : ∃ y, y = l[j] := ⟨_, rfl⟩
      rw [← hy] at hc1
      have HY := Lib.hid hy
      clear hy
      by_cases hxe : x = y
      · subst hxe
        go_wp2
        go_ret
        exact ⟨⟨_, rfl, ⟨fun _ => by rw [HY.out]; exact List.getElem_mem _, fun _ => by omega⟩⟩, rfl⟩
      · have hxy := str_ne hxe
        have HXE := Lib.hid hxe
        clear hxe
        go_wp2
        go_roundg (n - (j + 1))
        case measure => omega
        case rel =>
          refine ⟨j + 1, by omega, by go_num, rfl, Lib.hid ?_⟩
          intro z hz
          rw [List.take_succ_eq_append_getElem hjl] at hz
          rcases List.mem_append.1 hz with hz | hz
          · exact HP.out z hz
          · rw [List.mem_singleton.1 hz, ← HY.out]
            exact fun e => HXE.out e.symm
    · obtain rfl : j = n := by omega
      go_wp2
      go_ret
      refine ⟨⟨_, rfl, ⟨fun h => absurd h (by decide), fun hm => ?_⟩⟩, rfl⟩
      have := HP.out x (by rw [List.take_of_length_le (by have := HLN.out; omega)]; exact hm)
      exact absurd rfl this
theorem TContains_calls (w : World) (A : Option Addr) (n c : Nat) (l : List ByteArray) (x : ByteArray) (h : SLt w A n l) (hn : n ≤ 100000) :
    Calls Tryd.prog 16 #[.slice A n c, .string x] w fun e w' => (∃ r : Bool, e = .returned (.bool r) ∧ (r = true ↔ x ∈ l)) ∧ w = w' := by
  have HI := Lib.hid (TIndex_calls w A n c l x h hn)
  clear h
  go_enter Tryd.func16, Tryd.ntmps16
  go_wp2_with fail
  refine HI.out.mono ?_
  rintro e w1 ⟨⟨i, rfl, hi⟩, rfl⟩
  have HH := Lib.hid hi
  clear hi
  go_wp2
  go_ret
  exact ⟨⟨_, rfl, by rw [decide_eq_true_iff]; exact HH.out⟩, rfl⟩
set_option maxRecDepth 100000 in
set_option maxHeartbeats 1000000 in
theorem EqualT_calls {A A2 : Option Addr} {n c n2 c2 : Nat} {l l2 : List ByteArray} (h : SLt w A n l) (h2 : SLt w A2 n2 l2) (hn : n ≤ 100000) :
    Calls Tryd.prog 14 #[.slice A n c, .slice A2 n2 c2] w fun e w' => e = .returned (.bool (decide (l = l2))) ∧ Below w.heap.size w w' := by
  have HLN := Lib.hid (And.intro h.len h2.len)
  have HB0 := Lib.hid (Below.refl w.heap.size w)
  by_cases hnn : n = n2
  · subst hnn
    have hll : l.length = l2.length := by have := HLN.out.1; have := HLN.out.2; omega
    have hnq : ((n : Int) == (n : Int)) = true := by simp
    go_enter Tryd.func14, Tryd.ntmps14
    go_wp2
    go_loopg [13] n (fun q u wr => ∃ j : Nat, q + j = n ∧ u = .int .i64 j ∧ Hid (Below w.heap.size w wr) ∧ Hid (l.take j = l2.take j))
    case atStart => exact ⟨0, rfl, rfl, HB0, Lib.hid (by simp)⟩
    case round =>
      obtain ⟨j, hqj, rfl, HB, HP⟩ := hrel
      by_cases hj : j < n
      · have hjl : j < l.length := by have := HLN.out.1; omega
        have hjl2 : j < l2.length := by omega
        obtain ⟨ad, rfl, hc1⟩ := SLt.at_ (show SLt wr A n l from Reads.below h HB.out (Nat.le_refl _)) hjl
        obtain ⟨ad2, rfl, hc2⟩ := SLt.at_ (show SLt wr A2 n l2 from Reads.below h2 HB.out (Nat.le_refl _)) hjl2
        obtain ⟨y, hy⟩ : ∃ y, y = l[j] := ⟨_, rfl⟩
        obtain ⟨z, hz⟩ : ∃ z, z = l2[j] := ⟨_, rfl⟩
        rw [← hy] at hc1
        rw [← hz] at hc2
        have HY := Lib.hid (And.intro hy hz)
        clear hy hz h h2
        by_cases hxe : y = z
        · have HE := Lib.hid hxe
          subst hxe
          have hxy : (y.toList == y.toList) = true := by simp
          go_wp2_with fail
          go_quiet (fail)
          go_wp2
          go_roundg (n - (j + 1))
          case measure => omega
          case rel =>
            refine ⟨j + 1, by omega, by go_num, Lib.hid (K.below_drewN HB.out _), Lib.hid ?_⟩
            rw [List.take_succ_eq_append_getElem hjl, List.take_succ_eq_append_getElem hjl2, HP.out, ← HY.out.1, ← HY.out.2]
        · have hxy : (y.toList == z.toList) = false := str_ne hxe
          have HXE := Lib.hid hxe
          go_wp2_with fail
          go_quiet (fail)
          go_wp2
          go_ret
          have hne : l ≠ l2 := fun e => HXE.out (by rw [HY.out.1, HY.out.2]; simp [e])
          exact ⟨(by rw [decide_eq_false hne]; rfl), K.below_drewN HB.out _⟩
      · have hlt : ¬ (j : Int) < (n : Int) := by omega
        go_wp2
        go_ret
        have he := HP.out
        rw [List.take_of_length_le (by have := HLN.out.1; omega), List.take_of_length_le (by have := HLN.out.2; omega)] at he
        exact ⟨(by rw [decide_eq_true he]; rfl), HB.out⟩
  · have hnq : ((n : Int) == (n2 : Int)) = false := by rw [beq_eq_false_iff_ne]; intro e; exact hnn (by omega)
    have hne : l ≠ l2 := fun e => hnn (by have := HLN.out.1; have := HLN.out.2; rw [e] at *; omega)
    have HNE := Lib.hid hne
    clear hne
    go_enter Tryd.func14, Tryd.ntmps14
    go_wp2
    go_ret
    exact ⟨(by rw [decide_eq_false HNE.out]; rfl), Below.refl _ _⟩
theorem EqualB_calls {A B : Option Addr} {l m : List UInt8} {n c k d : Nat} (h : Reads w 1 A n (bys l)) (h' : Reads w 1 B k (bys m)) :
    Calls Tryd.prog 15 #[.slice A n c, .slice B k d] w fun e w' => e = .returned (.bool (l == m)) ∧ w = w' := by
  have h1 := conv_string (P := Tryd.prog) (c := c) Tryd.underlying22 Tryd.underlying5 Tryd.underlying9 h
  have h2 := conv_string (P := Tryd.prog) (c := d) Tryd.underlying22 Tryd.underlying5 Tryd.underlying9 h'
  go_enter Tryd.func15, Tryd.ntmps15
  go_wp2
  go_ret
  exact ⟨by simp, rfl⟩
theorem bytesClone_calls {ad : Addr} {l : List UInt8} {n c : Nat} (h : Reads w 1 (some ad) n (bys l)) (hn : n ≤ 100000) :
    Calls Tryd.prog 12 #[.slice (some ad) n c] w fun e w' => ∃ A' c', e = .returned (.slice A' n c') ∧ w'.ownsRow w.heap.size 5 1 (.slice A' n c') n (bys l) ∧ Below w.heap.size w w' := by
  obtain ⟨i0, hi, hz0, hz1, hz2⟩ := info_parts infoU8
  have hnil := fun W : World => Lib.run_eql_slice_nil (P := Tryd.prog) W 22 5 (some ad) n c 0 0 Tryd.underlying22
  go_enter Tryd.func12, Tryd.ntmps12
  go_wp2_with (first
    | (at_builtin; refine wpList_append_any _ rfl (.tmp 5) (.tmp 6) 22 rfl w.heap.size 5 i0 (.int .u8 0) 1 1 Tryd.underlying22 hi hz0 hz1 hz2 rfl (by decide) _ 0 [] rfl (Ky.own_empty w 5) (some ad) n c (bys l) rfl ?hr (bys_one l) ?h63 ?hb ?hbase ?_))
  case hr => exact h.below ((Below.refl w.heap.size w).alloc (Nat.le_refl _) _) (Nat.le_refl _)
  case h63 => unfold maxLen; omega
  case hb => omega
  case hbase => simp
  · intro v' w1 hown hg hat
    obtain ⟨A', c', rfl⟩ := own_slice hown
    have HO := Lib.hid (And.intro hown hg)
    clear hown hg
    go_wp2
    refine bodyPost_ret (v := .slice A' n c') (by kernel_rfl) rfl ?_
    exact ⟨A', c', rfl, own_base HO.out.1 (Nat.le_refl _), ((Below.refl w.heap.size w).alloc (Nat.le_refl _) _).trans (own_low (Ky.own_empty w 5) HO.out.2 (by simp))⟩
end
end Go.Proofs.YtlbnemnadegapaaDoor.Kf
