/-
  No cell of these rows narrows 'for every input' (looked for: loops, veiled, ifaces, maps, wideKeys, modest, calm, conditions, laid).
  DERIVED. THE GIVEN ROWS OF THIS SEAT. 6 by the template 'for every input the law returns true; each argument reads behind the call as it read before'; 0 by the template 'total and deterministic' (their statements: YtakfblfepgigbaaTotals.lean).
  GIVEN WITH THE SEED: the statements are not yours to turn. If you find one false, say at which input.
  Laid BY PROGRAM, IN A SANDBOX (cutbox-rows.mjs): the forced cells as the released guide's own fill.sh prints them over the translation d7fee3016cf7145c… (all of the seat's roots in one cut). By AI agents, Wed Nov 11 2026. No macro, syntax, notation, axiom, sorry.
-/
import Derived.Test.YtakfblfepgigbaaChecked
import GoSem.Claim
import GoSem.ClaimJoined
import GoSem.ClaimMapViews
import Derived.JoinedTies
import Derived.KernelRfl
namespace Go.Proofs.Ytakfblfepgigbaa
/- THE CELL 'sum', in the pinned program and in every row, IS THE sha256 OF THE DUMP (.gsa) THAT YtakfblfepgigbaaProg.lean LOADS. Nothing in Lean hashes anything: it is a label: what it is worth is what the hold of that sum in a sandbox is worth. -/
noncomputable def Try.pinned : Pinned := { name := "ytakfblfepgigbaa", sum := "d7fee3016cf7145cbd1a299a2fe6bae31a3714a5b7089d32ede4da434a1b9a34", checked := Try.checked }
namespace Rows
def none {H : Type} : Left H := { results := [], args := [] }

/-- 'laws.FnWrapPrefix': WHATEVER THE INPUT: true; the input reads as it did. -/
def fnWrapPrefixSpec : ChangeSpec := { name := "fnWrapPrefix", fn := fun _ => fun
  | [d1, d2, d3] => { results := [.lit (.bool true)], args := [d1, d2, d3] }
  | _ => none }
def fnWrapPrefixRow : OpenClaim := { program := "ytakfblfepgigbaa", sum := "d7fee3016cf7145cbd1a299a2fe6bae31a3714a5b7089d32ede4da434a1b9a34", func := "pub-bullarium/laws.FnWrapPrefix", spec := "fnWrapPrefix", unfollowed := true, recurses := true, named := ["encoding/binary.BigEndian"], apart := false }
def FnWrapPrefixSaid : Prop := fnWrapPrefixRow.holds Try.pinned (OpenSpec.ofChange fnWrapPrefixSpec)

/-- ITS FALSE NEIGHBOUR: 'it returns false'. Refute it at one input. -/
def fnWrapPrefixWrong : ChangeSpec := { name := "fnWrapPrefix", fn := fun _ => fun
  | [d1, d2, d3] => { results := [.lit (.bool false)], args := [d1, d2, d3] }
  | _ => none }
def FnWrapPrefixWrongFalsely : Prop := fnWrapPrefixRow.holds Try.pinned (OpenSpec.ofChange fnWrapPrefixWrong)

/-- 'laws.FnWrapPublic': WHATEVER THE INPUT: true; the input reads as it did. -/
def fnWrapPublicSpec : ChangeSpec := { name := "fnWrapPublic", fn := fun _ => fun
  | [d1, d2, d3] => { results := [.lit (.bool true)], args := [d1, d2, d3] }
  | _ => none }
def fnWrapPublicRow : OpenClaim := { program := "ytakfblfepgigbaa", sum := "d7fee3016cf7145cbd1a299a2fe6bae31a3714a5b7089d32ede4da434a1b9a34", func := "pub-bullarium/laws.FnWrapPublic", spec := "fnWrapPublic", unfollowed := true, recurses := true, named := ["encoding/binary.BigEndian"], apart := false }
def FnWrapPublicSaid : Prop := fnWrapPublicRow.holds Try.pinned (OpenSpec.ofChange fnWrapPublicSpec)

/-- ITS FALSE NEIGHBOUR: 'it returns false'. Refute it at one input. -/
def fnWrapPublicWrong : ChangeSpec := { name := "fnWrapPublic", fn := fun _ => fun
  | [d1, d2, d3] => { results := [.lit (.bool false)], args := [d1, d2, d3] }
  | _ => none }
def FnWrapPublicWrongFalsely : Prop := fnWrapPublicRow.holds Try.pinned (OpenSpec.ofChange fnWrapPublicWrong)

/-- 'laws.FnWrapApartKeys': WHATEVER THE INPUT: true; the input reads as it did. -/
def fnWrapApartKeysSpec : ChangeSpec := { name := "fnWrapApartKeys", fn := fun _ => fun
  | [d1, d2, d3] => { results := [.lit (.bool true)], args := [d1, d2, d3] }
  | _ => none }
def fnWrapApartKeysRow : OpenClaim := { program := "ytakfblfepgigbaa", sum := "d7fee3016cf7145cbd1a299a2fe6bae31a3714a5b7089d32ede4da434a1b9a34", func := "pub-bullarium/laws.FnWrapApartKeys", spec := "fnWrapApartKeys", inPlace := ["crypto/internal/constanttime.boolToUint8"], unfollowed := true, recurses := true, named := ["encoding/binary.BigEndian"], apart := false }
def FnWrapApartKeysSaid : Prop := fnWrapApartKeysRow.holds Try.pinned (OpenSpec.ofChange fnWrapApartKeysSpec)

/-- ITS FALSE NEIGHBOUR: 'it returns false'. Refute it at one input. -/
def fnWrapApartKeysWrong : ChangeSpec := { name := "fnWrapApartKeys", fn := fun _ => fun
  | [d1, d2, d3] => { results := [.lit (.bool false)], args := [d1, d2, d3] }
  | _ => none }
def FnWrapApartKeysWrongFalsely : Prop := fnWrapApartKeysRow.holds Try.pinned (OpenSpec.ofChange fnWrapApartKeysWrong)

/-- 'laws.FnWrapOpen': WHATEVER THE INPUT: true; the input reads as it did. -/
def fnWrapOpenSpec : ChangeSpec := { name := "fnWrapOpen", fn := fun _ => fun
  | [d1, d2] => { results := [.lit (.bool true)], args := [d1, d2] }
  | _ => none }
def fnWrapOpenRow : OpenClaim := { program := "ytakfblfepgigbaa", sum := "d7fee3016cf7145cbd1a299a2fe6bae31a3714a5b7089d32ede4da434a1b9a34", func := "pub-bullarium/laws.FnWrapOpen", spec := "fnWrapOpen", inPlace := ["crypto/internal/constanttime.boolToUint8"], unfollowed := true, recurses := true, named := ["encoding/binary.BigEndian"], apart := false }
def FnWrapOpenSaid : Prop := fnWrapOpenRow.holds Try.pinned (OpenSpec.ofChange fnWrapOpenSpec)

/-- ITS FALSE NEIGHBOUR: 'it returns false'. Refute it at one input. -/
def fnWrapOpenWrong : ChangeSpec := { name := "fnWrapOpen", fn := fun _ => fun
  | [d1, d2] => { results := [.lit (.bool false)], args := [d1, d2] }
  | _ => none }
def FnWrapOpenWrongFalsely : Prop := fnWrapOpenRow.holds Try.pinned (OpenSpec.ofChange fnWrapOpenWrong)

/-- 'laws.FnWrapTorn': WHATEVER THE INPUT: true; the input reads as it did. -/
def fnWrapTornSpec : ChangeSpec := { name := "fnWrapTorn", fn := fun _ => fun
  | [d1, d2] => { results := [.lit (.bool true)], args := [d1, d2] }
  | _ => none }
def fnWrapTornRow : OpenClaim := { program := "ytakfblfepgigbaa", sum := "d7fee3016cf7145cbd1a299a2fe6bae31a3714a5b7089d32ede4da434a1b9a34", func := "pub-bullarium/laws.FnWrapTorn", spec := "fnWrapTorn", inPlace := ["crypto/internal/constanttime.boolToUint8"], unfollowed := true, recurses := true, named := ["encoding/binary.BigEndian"], apart := false }
def FnWrapTornSaid : Prop := fnWrapTornRow.holds Try.pinned (OpenSpec.ofChange fnWrapTornSpec)

/-- ITS FALSE NEIGHBOUR: 'it returns false'. Refute it at one input. -/
def fnWrapTornWrong : ChangeSpec := { name := "fnWrapTorn", fn := fun _ => fun
  | [d1, d2] => { results := [.lit (.bool false)], args := [d1, d2] }
  | _ => none }
def FnWrapTornWrongFalsely : Prop := fnWrapTornRow.holds Try.pinned (OpenSpec.ofChange fnWrapTornWrong)

/-- 'laws.FnWrapWordOrder': WHATEVER THE INPUT: true; the input reads as it did. -/
def fnWrapWordOrderSpec : ChangeSpec := { name := "fnWrapWordOrder", fn := fun _ => fun
  | [d1, d2, d3] => { results := [.lit (.bool true)], args := [d1, d2, d3] }
  | _ => none }
def fnWrapWordOrderRow : OpenClaim := { program := "ytakfblfepgigbaa", sum := "d7fee3016cf7145cbd1a299a2fe6bae31a3714a5b7089d32ede4da434a1b9a34", func := "pub-bullarium/laws.FnWrapWordOrder", spec := "fnWrapWordOrder", inPlace := ["crypto/internal/constanttime.boolToUint8"], unfollowed := true, recurses := true, named := ["encoding/binary.BigEndian"], apart := false }
def FnWrapWordOrderSaid : Prop := fnWrapWordOrderRow.holds Try.pinned (OpenSpec.ofChange fnWrapWordOrderSpec)

/-- ITS FALSE NEIGHBOUR: 'it returns false'. Refute it at one input. -/
def fnWrapWordOrderWrong : ChangeSpec := { name := "fnWrapWordOrder", fn := fun _ => fun
  | [d1, d2, d3] => { results := [.lit (.bool false)], args := [d1, d2, d3] }
  | _ => none }
def FnWrapWordOrderWrongFalsely : Prop := fnWrapWordOrderRow.holds Try.pinned (OpenSpec.ofChange fnWrapWordOrderWrong)

/- THE SECOND FORM. 'bulk': how many values and letters a reading holds, each counted each time it is reached (what is shared counts as often as it is met; a slice's spare places count too). A statement '..UptoSaid' is the law's where the arguments, and the package variables that the reading takes, are together of bulk at most 1048576: NARROWER than '..Said'. Prove '..Said' where nothing that the law and all that it calls make is longer than what came in: it says more and counts as full. Else prove '..UptoSaid'. A law counts once. -/
mutual
def uptoBulk {H : Type} : DataW H → Nat
  | .lit (.string bytes) => bytes.length + 1
  | .lit _ => 1
  | .nil => 1
  | .ptr d => uptoBulk d + 1
  | .slice elems spare => uptoBulkAll elems + uptoBulkAll spare + 1
  | .agg parts => uptoBulkAll parts + 1
  | .iface _ d => uptoBulk d + 1
  | .map entries => uptoBulkEntries entries + 1
  | .held _ => 1
def uptoBulkAll {H : Type} : List (DataW H) → Nat
  | [] => 0
  | d :: r => uptoBulk d + uptoBulkAll r
def uptoBulkEntries {H : Type} : List (Lit × DataW H) → Nat
  | [] => 0
  | x :: r => uptoBulkEntry x + uptoBulkEntries r
def uptoBulkEntry {H : Type} : Lit × DataW H → Nat
  | (.string bytes, d) => bytes.length + uptoBulk d + 1
  | (_, d) => uptoBulk d + 1
 end
def uptoSmall : (H : Type) → List (DataW H) → Bool := fun _ ds => decide (uptoBulkAll ds ≤ 1048576)
def OpenSpec.upto (s : _root_.Go.ChangeSpec) : _root_.Go.OpenSpec := { _root_.Go.OpenSpec.ofChange s with cond := some uptoSmall }

/-- 'laws.FnWrapPrefix', WHERE WHAT IT READS IS OF BULK AT MOST 1048576: true; the input reads as it did. -/
def fnWrapPrefixUptoRow : OpenClaim := { program := "ytakfblfepgigbaa", sum := "d7fee3016cf7145cbd1a299a2fe6bae31a3714a5b7089d32ede4da434a1b9a34", func := "pub-bullarium/laws.FnWrapPrefix", spec := "fnWrapPrefix", unfollowed := true, recurses := true, named := ["encoding/binary.BigEndian"], apart := false, narrowed := true }
def FnWrapPrefixUptoSaid : Prop := fnWrapPrefixUptoRow.holds Try.pinned (OpenSpec.upto fnWrapPrefixSpec)

/-- 'laws.FnWrapPublic', WHERE WHAT IT READS IS OF BULK AT MOST 1048576: true; the input reads as it did. -/
def fnWrapPublicUptoRow : OpenClaim := { program := "ytakfblfepgigbaa", sum := "d7fee3016cf7145cbd1a299a2fe6bae31a3714a5b7089d32ede4da434a1b9a34", func := "pub-bullarium/laws.FnWrapPublic", spec := "fnWrapPublic", unfollowed := true, recurses := true, named := ["encoding/binary.BigEndian"], apart := false, narrowed := true }
def FnWrapPublicUptoSaid : Prop := fnWrapPublicUptoRow.holds Try.pinned (OpenSpec.upto fnWrapPublicSpec)

/-- 'laws.FnWrapApartKeys', WHERE WHAT IT READS IS OF BULK AT MOST 1048576: true; the input reads as it did. -/
def fnWrapApartKeysUptoRow : OpenClaim := { program := "ytakfblfepgigbaa", sum := "d7fee3016cf7145cbd1a299a2fe6bae31a3714a5b7089d32ede4da434a1b9a34", func := "pub-bullarium/laws.FnWrapApartKeys", spec := "fnWrapApartKeys", inPlace := ["crypto/internal/constanttime.boolToUint8"], unfollowed := true, recurses := true, named := ["encoding/binary.BigEndian"], apart := false, narrowed := true }
def FnWrapApartKeysUptoSaid : Prop := fnWrapApartKeysUptoRow.holds Try.pinned (OpenSpec.upto fnWrapApartKeysSpec)

/-- 'laws.FnWrapOpen', WHERE WHAT IT READS IS OF BULK AT MOST 1048576: true; the input reads as it did. -/
def fnWrapOpenUptoRow : OpenClaim := { program := "ytakfblfepgigbaa", sum := "d7fee3016cf7145cbd1a299a2fe6bae31a3714a5b7089d32ede4da434a1b9a34", func := "pub-bullarium/laws.FnWrapOpen", spec := "fnWrapOpen", inPlace := ["crypto/internal/constanttime.boolToUint8"], unfollowed := true, recurses := true, named := ["encoding/binary.BigEndian"], apart := false, narrowed := true }
def FnWrapOpenUptoSaid : Prop := fnWrapOpenUptoRow.holds Try.pinned (OpenSpec.upto fnWrapOpenSpec)

/-- 'laws.FnWrapTorn', WHERE WHAT IT READS IS OF BULK AT MOST 1048576: true; the input reads as it did. -/
def fnWrapTornUptoRow : OpenClaim := { program := "ytakfblfepgigbaa", sum := "d7fee3016cf7145cbd1a299a2fe6bae31a3714a5b7089d32ede4da434a1b9a34", func := "pub-bullarium/laws.FnWrapTorn", spec := "fnWrapTorn", inPlace := ["crypto/internal/constanttime.boolToUint8"], unfollowed := true, recurses := true, named := ["encoding/binary.BigEndian"], apart := false, narrowed := true }
def FnWrapTornUptoSaid : Prop := fnWrapTornUptoRow.holds Try.pinned (OpenSpec.upto fnWrapTornSpec)

/-- 'laws.FnWrapWordOrder', WHERE WHAT IT READS IS OF BULK AT MOST 1048576: true; the input reads as it did. -/
def fnWrapWordOrderUptoRow : OpenClaim := { program := "ytakfblfepgigbaa", sum := "d7fee3016cf7145cbd1a299a2fe6bae31a3714a5b7089d32ede4da434a1b9a34", func := "pub-bullarium/laws.FnWrapWordOrder", spec := "fnWrapWordOrder", inPlace := ["crypto/internal/constanttime.boolToUint8"], unfollowed := true, recurses := true, named := ["encoding/binary.BigEndian"], apart := false, narrowed := true }
def FnWrapWordOrderUptoSaid : Prop := fnWrapWordOrderUptoRow.holds Try.pinned (OpenSpec.upto fnWrapWordOrderSpec)

end Rows
end Go.Proofs.Ytakfblfepgigbaa
