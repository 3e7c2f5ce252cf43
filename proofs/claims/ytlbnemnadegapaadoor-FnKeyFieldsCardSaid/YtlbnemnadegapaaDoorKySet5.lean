/- Walks of a key's KeyID, of a key set's LookupKeyID, of maps.Copy over maps with texts as keys; the conditions are on what lies in memory. -/
import Derived.Test.YtlbnemnadegapaaDoorKySet4
set_option linter.unusedVariables false
set_option linter.unusedSimpArgs false
namespace Go.Proofs.YtlbnemnadegapaaDoor.Ky
open Go.RowKit Go.Proofs.YtlbnemnadegapaaDoor.K Go.Proofs.YtlbnemnadegapaaDoor.Nm
/-- A key's ID: none, or a text of its own. -/
def KeyId (w : World) (x : Nat) (id : Option ByteArray) : Prop := ∃ cs p, Blk w x 144 cs ∧ cs[1]? = some (.pointer p) ∧ ((id = none ∧ p = none) ∨ ∃ s b, id = some s ∧ p = some ⟨b, 0, none⟩ ∧ Blk w b 9 #[.string s])
section
variable {w w' : World} {x : Nat} {id : Option ByteArray}
theorem KeyId.keep (h : KeyId w x id) (hk : ∀ j T cs, Blk w j T cs → T = 144 ∨ T = 9 → Blk w' j T cs) : KeyId w' x id := by
  obtain ⟨cs, p, h1, h2, h3⟩ := h
  refine ⟨cs, p, hk _ _ _ h1 (.inl rfl), h2, ?_⟩
  rcases h3 with h3 | ⟨s, b, a1, a2, a3⟩
  · exact .inl h3
  · exact .inr ⟨s, b, a1, a2, hk _ _ _ a3 (.inr rfl)⟩
theorem KeyId.fw {base : Nat} (h : KeyId w x id) (hf : Fw base w w') : KeyId w' x id := h.keep fun j T cs hb hT => hf.keep j T cs hb (by rcases hT with rfl | rfl <;> unfold badSK <;> decide)
set_option maxRecDepth 100000 in
theorem KeyID_calls (h : KeyId w x id) : Calls Tryd.prog 104 #[.pointer (some ⟨x, 0, none⟩)] w fun e w' => e = .returned (.tuple #[.string (id.getD ⟨#[]⟩), .bool id.isSome]) ∧ w = w' := by
  obtain ⟨cs, p, h1, h2, h3⟩ := h
  have c1 : w.cell? ⟨x, 1, none⟩ = some (.pointer p) := by rw [h1.cell]; exact h2
  rcases h3 with ⟨rfl, rfl⟩ | ⟨s, b, rfl, rfl, hb⟩
  · clear h1 h2
    go_enter Tryd.func104, Tryd.ntmps104
    go_wp2
    exact bodyPost_ret (v := .tuple #[.string ⟨#[]⟩, .bool false]) (by kernel_rfl) rfl ⟨rfl, rfl⟩
  · have c2 : w.cell? ⟨b, 0, none⟩ = some (.string s) := by rw [hb.cell]; rfl
    clear h1 h2 hb
    go_enter Tryd.func104, Tryd.ntmps104
    go_wp2
    exact bodyPost_ret (v := .tuple #[.string s, .bool true]) (by kernel_rfl) rfl ⟨rfl, rfl⟩
end
def hit (ids : Nat → Option ByteArray) (kid : ByteArray) (x : Nat) : Bool := match ids x with | some s => s.toList == kid.toList | none => false
def found (o : Option Nat) : Value := match o with | some x => .tuple #[keyV x, .bool true] | none => .tuple #[.nilIface, .bool false]
section
variable {Q : ByteArray → Prop} {base g : Nat} {w w' : World} {S : List Nat}
set_option maxRecDepth 100000 in
set_option maxHeartbeats 2000000 in
theorem Lookup_calls (h : SetAt Q base w g S) (ids : Nat → Option ByteArray) (hid : ∀ x ∈ S, KeyId w x (ids x)) (kid : ByteArray) (hn : S.length < 500) :
    Calls Tryd.prog 130 #[.pointer (some ⟨g, 0, none⟩), .string kid] w fun e w' => e = .returned (found (S.find? (hit ids kid))) ∧ w = w' := by
  have hna : ∀ (W : World) (x : Nat), Sem.run Tryd.prog (nilAhead 319 107 (.pointer (some ⟨x, 0, none⟩)) "KeyID") W = .ok (some false) W := fun W x => by kernel_rfl
  have hms : ∀ (W : World) (x : Nat), (method 319 107 (.pointer (some ⟨x, 0, none⟩)) "KeyID").run Tryd.prog W = .ok (104, .pointer (some ⟨x, 0, none⟩)) W := fun W x => by kernel_rfl
  obtain ⟨v, m, hK, hM, hbg, hbm⟩ := h
  obtain ⟨A, c, rfl, hlc, _⟩ := hK.2.len
  obtain ⟨c0, c1⟩ := hK.cells
  have HK := Lib.hid hK.2
  rw [List.length_map] at c0
  obtain ⟨n, hn2⟩ : ∃ n, n = S.length := ⟨_, rfl⟩
  rw [← hn2] at c0
  have HN := Lib.hid hn2
  have HD := Lib.hid hid
  clear hK hM hlc hn2 hid
  go_enter Tryd.func130, Tryd.ntmps130
  go_wp2
  go_loopg [15] n (fun q u wr => ∃ j : Nat, q + j = n ∧ u = .int .i64 j ∧ wr = w ∧ Hid (∀ i (hi : i < S.length), i < j → hit ids kid S[i] = false))
  case atStart => exact ⟨0, rfl, rfl, rfl, Lib.hid (fun i _ h => absurd h (by omega))⟩
  case round =>
    obtain ⟨j, hqj, rfl, hw, HP⟩ := hrel
    subst hw
    by_cases hj : j < n
    · have hjl : j < S.length := by rw [← HN.out]; exact hj
      obtain ⟨b, off, c', he, hcell⟩ := HK.out.at_ (j := j) (by simpa using hjl)
      injection he with he1 he2 he3
      subst he1
      subst he3
      rw [List.getElem_map] at hcell
      obtain ⟨x, hx⟩ : ∃ x, x = S[j] := ⟨_, rfl⟩
      rw [← hx] at hcell
      have HX := Lib.hid hx
      have HC := Lib.hid (KeyID_calls (HD.out x (by rw [hx]; exact List.getElem_mem _)))
      clear hx he2
      have hfind : ∀ b : Bool, hit ids kid x = b → b = true → S.find? (hit ids kid) = some x := by
        intro b h1 h2
        rw [List.find?_eq_some_iff_getElem]
        refine ⟨by rw [h1]; exact h2, j, hjl, HX.out.symm, fun i hi => by rw [HP.out i (by omega) hi]; rfl⟩
      have HF := Lib.hid hfind
      clear hfind
      have hnext : hit ids kid x = false → ∀ i (hi : i < S.length), i < j + 1 → hit ids kid S[i] = false := by
        intro h i hi hij
        rcases Nat.lt_or_ge i j with h1 | h1
        · exact HP.out i hi h1
        · obtain rfl : i = j := by omega
          rw [← HX.out]; exact h
      have HNX := Lib.hid hnext
      clear hnext
      go_wp2_with fail
      refine HC.out.mono ?_
      rintro e w1 ⟨rfl, rfl⟩
      clear HC
      cases hid : ids x with
      | none =>
        have HH := Lib.hid (show hit ids kid x = false by unfold hit; rw [hid])
        clear hid
        simp only [Option.getD_none, Option.isSome_none]
        go_wp2
        go_roundg (n - (j + 1))
        case measure => omega
        case rel => exact ⟨j + 1, by omega, by go_num, rfl, Lib.hid (HNX.out HH.out)⟩
      | some s =>
        simp only [Option.getD_some, Option.isSome_some]
        cases hsk : (s.toList == kid.toList) with
        | true =>
          have HH := Lib.hid (show hit ids kid x = true by unfold hit; rw [hid]; exact hsk)
          clear hid
          go_wp2
          exact bodyPost_ret (v := .tuple #[keyV x, .bool true]) (by kernel_rfl) rfl ⟨by rw [HF.out _ HH.out rfl]; rfl, rfl⟩
        | false =>
          have HH := Lib.hid (show hit ids kid x = false by unfold hit; rw [hid]; exact hsk)
          clear hid
          go_wp2
          go_roundg (n - (j + 1))
          case measure => omega
          case rel => exact ⟨j + 1, by omega, by go_num, rfl, Lib.hid (HNX.out HH.out)⟩
    · obtain rfl : j = n := by omega
      have hno : S.find? (hit ids kid) = none := by
        rw [List.find?_eq_none]
        intro x hx
        obtain ⟨i, hi, rfl⟩ := List.getElem_of_mem hx
        rw [HP.out i hi (by rw [HN.out]; exact hi)]
        decide
      have HNO := Lib.hid hno
      clear hno
      go_wp2
      exact bodyPost_ret (v := .tuple #[.nilIface, .bool false]) (by kernel_rfl) rfl ⟨by rw [HNO.out]; rfl, rfl⟩
end
end Go.Proofs.YtlbnemnadegapaaDoor.Ky
