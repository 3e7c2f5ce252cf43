/- Walks of base64's lengths; the conditions are on sizes alone. -/
import Derived.Test.YteecamdcfkielaaDoorB64Enc
set_option linter.unusedVariables false
set_option linter.unusedSimpArgs false
namespace Go.Proofs.YteecamdcfkielaaDoor.B64
open Go.RowKit Go.Proofs.YteecamdcfkielaaDoor.K Go.Proofs.YteecamdcfkielaaDoor.Own
theorem encC_pad_at (al dm : List UInt8) (pad : Int) (ha : al.length = 64) (hd : dm.length = 256) : (encC al dm pad).toArray[320]? = some (.int .i32 pad) := by
  rw [List.getElem?_toArray, encC, List.getElem?_append_right (by rw [bys_length]; omega), bys_length, ha, List.getElem?_append_right (by rw [bys_length]; omega), bys_length, hd]
  rfl
theorem encC_letter (al dm : List UInt8) (pad : Int) (c : Nat) (ha : al.length = 64) (hc : c < 64) : (encC al dm pad).toArray[c]? = some (.int .u8 (bt al c).toNat) := by
  rw [List.getElem?_toArray, encC, List.getElem?_append_left (by rw [bys_length]; omega), bys_get _ _ (by omega), bt_get _ _ (by omega)]
/-- The length of what is written without padding. -/
def rawLen (m : Nat) : Nat := m / 3 * 4 + (m % 3 * 8 + 5) / 6
set_option maxHeartbeats 1000000 in
theorem EncodedLen_calls (w : World) (g m : Nat) (al dm : List UInt8) (ha : al.length = 64) (hd : dm.length = 256) (hb : Blk w g 78 (encC al dm (-1)).toArray) (hm : m ≤ 1000000) :
    Calls Tryd.prog 64 #[.pointer (some ⟨g, 0, none⟩), .int .i64 m] w fun e w' => e = .returned (.int .i64 (rawLen m : Nat)) ∧ w = w' := by
  have hc : w.cell? ⟨g, 320, none⟩ = some (.int .i32 (-1)) := by rw [hb.cell, encC_pad_at _ _ _ ha hd]
  obtain ⟨q, hq⟩ : ∃ q, q = m / 3 := ⟨_, rfl⟩
  obtain ⟨r, hr⟩ : ∃ r, r = m % 3 := ⟨_, rfl⟩
  have hqi : (m : Int) / 3 = (q : Int) := by omega
  have hri : (m : Int) % 3 = (r : Int) := by omega
  have hq3 : q ≤ 1000000 := by omega
  have hr3 : r < 3 := by omega
  have hres : rawLen m = q * 4 + (r * 8 + 5) / 6 := by rw [rawLen, hq, hr]
  rw [hres]
  clear hq hr hres hb
  go_enter Tryd.func64, Tryd.ntmps64
  go_wp2
  go_ret
  exact ⟨ret_int (by omega), rfl⟩
set_option maxHeartbeats 1000000 in
theorem decodedLen_raw (w : World) (m : Nat) (hm : m ≤ 1000000) : Calls Tryd.prog 76 #[.int .i64 m, .int .i32 (-1)] w fun e w' => e = .returned (.int .i64 (m / 4 * 3 + m % 4 * 6 / 8 : Nat)) ∧ w = w' := by
  obtain ⟨q, hq⟩ : ∃ q, q = m / 4 := ⟨_, rfl⟩
  obtain ⟨r, hr⟩ : ∃ r, r = m % 4 := ⟨_, rfl⟩
  have hqi : (m : Int) / 4 = (q : Int) := by omega
  have hri : (m : Int) % 4 = (r : Int) := by omega
  have hq3 : q ≤ 1000000 := by omega
  have hr3 : r < 4 := by omega
  rw [← hq, ← hr]
  clear hq hr
  go_enter Tryd.func76, Tryd.ntmps76
  go_wp2
  go_ret
  exact ⟨ret_int (by omega), rfl⟩
set_option maxHeartbeats 1000000 in
theorem decodedLen_pad (w : World) (m : Nat) (hm : m ≤ 1000000) : Calls Tryd.prog 76 #[.int .i64 m, .int .i32 61] w fun e w' => e = .returned (.int .i64 (m / 4 * 3 : Nat)) ∧ w = w' := by
  obtain ⟨q, hq⟩ : ∃ q, q = m / 4 := ⟨_, rfl⟩
  have hqi : (m : Int) / 4 = (q : Int) := by omega
  have hq3 : q ≤ 1000000 := by omega
  rw [← hq]
  clear hq
  go_enter Tryd.func76, Tryd.ntmps76
  go_wp2
  go_ret
  exact ⟨ret_int (by omega), rfl⟩
end Go.Proofs.YteecamdcfkielaaDoor.B64
