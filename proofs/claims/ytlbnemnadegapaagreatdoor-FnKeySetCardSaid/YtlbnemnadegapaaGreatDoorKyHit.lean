/- The reference's closure: whose ID a text is. -/
import Derived.Test.YtlbnemnadegapaaGreatDoorKyClone
import Derived.Test.YtlbnemnadegapaaGreatDoorKyAnew
import Derived.Test.YtlbnemnadegapaaGreatDoorKyData
set_option linter.unusedVariables false
set_option linter.unusedSimpArgs false
namespace Go.Proofs.YtlbnemnadegapaaGreatDoor.Ky
open Go.RowKit Go.Proofs.YtlbnemnadegapaaGreatDoor.K Go.Proofs.YtlbnemnadegapaaGreatDoor.Nm
section
variable {w w' : World}
set_option maxRecDepth 100000 in
set_option maxHeartbeats 2000000 in
theorem hit_calls {ad : Addr} {n c bs bk : Nat} {ds : List KD} {id : ByteArray} (hD : KDL w (some ad) n ds) (hs : w.cell? ⟨bs, 3, none⟩ = some (.string id)) (hk : w.cell? ⟨bk, 0, none⟩ = some (.slice (some ad) n c)) (hid : id.size = 1) (i : Nat) (hi : i < n) :
    Calls Tryz.prog 20 #[.int .i64 (i : Nat), .pointer (some ⟨bs, 0, none⟩), .pointer (some ⟨bk, 0, none⟩)] w fun e w' => e = .returned (.bool (Hd ds id (i : Nat))) ∧ Below w.heap.size w w' := by
  have hil : (i : Int) < (n : Int) := by omega
  have hids : i < ds.length := by rw [← hD.len]; exact hi
  obtain ⟨ad', hA, k0, k1, k2⟩ := hD.at_ hids
  obtain rfl := Option.some.inj hA
  have hHd : Hd ds id (i : Nat) = if ds[i].has then (ds[i].id.toList == id.toList) else false := by
    unfold Hd
    rw [Int.toNat_natCast, List.getElem?_eq_getElem hids]
    simp only [idOf]
    cases ds[i].has <;> rfl
  rw [hHd]
  obtain ⟨d, hd⟩ : ∃ d, d = ds[i] := ⟨_, rfl⟩
  rw [← hd] at k0 k1 k2 ⊢
  clear hd hHd hA
  obtain ⟨dA, dn, dc, dl, dh, di⟩ := d
  simp only at k0 k1 k2 ⊢
  have hne : id.toList.isEmpty = false := by
    rw [ByteArray.toList_eq]
    have : id.data.toList.length = 1 := by simpa using hid
    cases h : id.data.toList with
    | nil => rw [h] at this; cases this
    | cons a r => rfl
  cases dh with
  | false =>
    go_enter Tryz.func20, Tryz.ntmps20
    go_wp2_with fail
    go_quiet (fail)
    go_wp2_with fail
    go_ret
    exact ⟨rfl, below_drewN (Below.refl _ _) _⟩
  | true =>
    obtain ⟨b, hb⟩ : ∃ b, (di.toList == id.toList) = b := ⟨_, rfl⟩
    simp only [if_true]
    rw [hb]
    go_enter Tryz.func20, Tryz.ntmps20
    go_wp2_with fail
    go_quiet (fail)
    go_wp2_with fail
    go_ret
    exact ⟨rfl, below_drewN (Below.refl _ _) _⟩
end
end Go.Proofs.YtlbnemnadegapaaGreatDoor.Ky
