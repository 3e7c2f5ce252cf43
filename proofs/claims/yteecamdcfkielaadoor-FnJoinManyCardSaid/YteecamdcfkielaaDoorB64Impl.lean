/- Walks of the encoder's callers: getEncoder, Encode, EncodedBehind; the conditions are on sizes alone. -/
import Derived.Test.YteecamdcfkielaaDoorB64App
import Derived.Deep.RegionWith
set_option linter.unusedVariables false
set_option linter.unusedSimpArgs false
namespace Go.Proofs.YteecamdcfkielaaDoor.B64
open Go.RowKit Go.Proofs.YteecamdcfkielaaDoor.K Go.Proofs.YteecamdcfkielaaDoor.Own
theorem alURL_len : alURL.length = 64 := by rfl
/-- The encoder. -/
def EncAt (w : World) (g : Nat) : Prop := Blk w g 78 (encC alURL (dmap alURL 64) (-1)).toArray
def EncPost (w : World) (e : Ending) (w' : World) : Prop := ∃ g, e = .returned (.iface 69 (.pointer (some ⟨g, 0, none⟩))) ∧ w.heap.size ≤ g ∧ EncAt w' g ∧ Below w.heap.size w w'
theorem getEncoder_calls (w : World) : Calls Tryd.prog 23 #[] w (EncPost w) := by
  have H := Lib.hid (zzRawURL_calls w)
  go_enter Tryd.func23, Tryd.ntmps23
  go_wp2_with (first
    | (go_at_call 28; refine H.out.mono ?_; rintro e w' ⟨g, rfl, hg, hb, hB⟩; have HB := Lib.hid hb; clear hb))
  go_ret
  exact ⟨g, rfl, hg, HB.out, hB⟩
theorem encR_len (al bs : List UInt8) (n : Nat) (h : n = bs.length) : (encRaw al bs).length = rawLen n := by rw [encRaw_len, h]
theorem rawLen_le (n : Nat) (h : n ≤ 100000) : rawLen n ≤ 200000 := by unfold rawLen; omega
end Go.Proofs.YteecamdcfkielaaDoor.B64
