/-
  No cell of these rows narrows 'for every input' (looked for: loops, veiled, ifaces, maps, wideKeys, modest, calm, conditions, laid).
  DERIVED. THE GIVEN ROWS OF THIS SEAT. 9 by the template 'for every input the law returns true; each argument reads behind the call as it read before'; 0 by the template 'total and deterministic' (their statements: YtimicibalhaljaaTotals.lean).
  GIVEN WITH THE SEED: the statements are not yours to turn. If you find one false, say at which input.
  Laid BY PROGRAM, IN A SANDBOX (cutbox-rows.mjs): the forced cells as the released guide's own fill.sh prints them over the translation 52471c6c985d17a4… (all of the seat's roots in one cut). By AI agents, Wed Nov 11 2026. No macro, syntax, notation, axiom, sorry.
-/
import Derived.Test.YtimicibalhaljaaChecked
import GoSem.Claim
import GoSem.ClaimJoined
import GoSem.ClaimMapViews
import Derived.JoinedTies
import Derived.KernelRfl
namespace Go.Proofs.Ytimicibalhaljaa
/- THE CELL 'sum', in the pinned program and in every row, IS THE sha256 OF THE DUMP (.gsa) THAT YtimicibalhaljaaProg.lean LOADS. Nothing in Lean hashes anything: it is a label: what it is worth is what the hold of that sum in a sandbox is worth. -/
noncomputable def Try.pinned : Pinned := { name := "ytimicibalhaljaa", sum := "52471c6c985d17a4d7cb84c6febdf0c40fc2c5e9abe1411114ff30a14c22f3da", checked := Try.checked }
namespace Rows
def none {H : Type} : Left H := { results := [], args := [] }

/-- 'laws.FnPartMixed': WHATEVER THE INPUT: true; the input reads as it did. -/
def fnPartMixedSpec : ChangeSpec := { name := "fnPartMixed", fn := fun _ => fun
  | [d1, d2] => { results := [.lit (.bool true)], args := [d1, d2] }
  | _ => none }
def fnPartMixedRow : OpenClaim := { program := "ytimicibalhaljaa", sum := "52471c6c985d17a4d7cb84c6febdf0c40fc2c5e9abe1411114ff30a14c22f3da", func := "pub-bullarium/laws.FnPartMixed", spec := "fnPartMixed", unfollowed := true, recurses := true, apart := false }
def FnPartMixedSaid : Prop := fnPartMixedRow.holds Try.pinned (OpenSpec.ofChange fnPartMixedSpec)

/-- ITS FALSE NEIGHBOUR: 'it returns false'. Refute it at one input. -/
def fnPartMixedWrong : ChangeSpec := { name := "fnPartMixed", fn := fun _ => fun
  | [d1, d2] => { results := [.lit (.bool false)], args := [d1, d2] }
  | _ => none }
def FnPartMixedWrongFalsely : Prop := fnPartMixedRow.holds Try.pinned (OpenSpec.ofChange fnPartMixedWrong)

/-- 'laws.FnPartGroups': WHATEVER THE INPUT: true; the input reads as it did. -/
def fnPartGroupsSpec : ChangeSpec := { name := "fnPartGroups", fn := fun _ => fun
  | [d1, d2] => { results := [.lit (.bool true)], args := [d1, d2] }
  | _ => none }
def fnPartGroupsRow : OpenClaim := { program := "ytimicibalhaljaa", sum := "52471c6c985d17a4d7cb84c6febdf0c40fc2c5e9abe1411114ff30a14c22f3da", func := "pub-bullarium/laws.FnPartGroups", spec := "fnPartGroups", unfollowed := true, recurses := true, apart := false }
def FnPartGroupsSaid : Prop := fnPartGroupsRow.holds Try.pinned (OpenSpec.ofChange fnPartGroupsSpec)

/-- ITS FALSE NEIGHBOUR: 'it returns false'. Refute it at one input. -/
def fnPartGroupsWrong : ChangeSpec := { name := "fnPartGroups", fn := fun _ => fun
  | [d1, d2] => { results := [.lit (.bool false)], args := [d1, d2] }
  | _ => none }
def FnPartGroupsWrongFalsely : Prop := fnPartGroupsRow.holds Try.pinned (OpenSpec.ofChange fnPartGroupsWrong)

/-- 'laws.FnPartDecode': WHATEVER THE INPUT: true; the input reads as it did. -/
def fnPartDecodeSpec : ChangeSpec := { name := "fnPartDecode", fn := fun _ => fun
  | [d] => { results := [.lit (.bool true)], args := [d] }
  | _ => none }
def fnPartDecodeRow : OpenClaim := { program := "ytimicibalhaljaa", sum := "52471c6c985d17a4d7cb84c6febdf0c40fc2c5e9abe1411114ff30a14c22f3da", func := "pub-bullarium/laws.FnPartDecode", spec := "fnPartDecode", unfollowed := true, recurses := true, apart := false }
def FnPartDecodeSaid : Prop := fnPartDecodeRow.holds Try.pinned (OpenSpec.ofChange fnPartDecodeSpec)

/-- ITS FALSE NEIGHBOUR: 'it returns false'. Refute it at one input. -/
def fnPartDecodeWrong : ChangeSpec := { name := "fnPartDecode", fn := fun _ => fun
  | [d] => { results := [.lit (.bool false)], args := [d] }
  | _ => none }
def FnPartDecodeWrongFalsely : Prop := fnPartDecodeRow.holds Try.pinned (OpenSpec.ofChange fnPartDecodeWrong)

/-- 'laws.FnPartText': WHATEVER THE INPUT: true; the input reads as it did. -/
def fnPartTextSpec : ChangeSpec := { name := "fnPartText", fn := fun _ => fun
  | [d] => { results := [.lit (.bool true)], args := [d] }
  | _ => none }
def fnPartTextRow : OpenClaim := { program := "ytimicibalhaljaa", sum := "52471c6c985d17a4d7cb84c6febdf0c40fc2c5e9abe1411114ff30a14c22f3da", func := "pub-bullarium/laws.FnPartText", spec := "fnPartText", unfollowed := true, recurses := true, apart := false }
def FnPartTextSaid : Prop := fnPartTextRow.holds Try.pinned (OpenSpec.ofChange fnPartTextSpec)

/-- ITS FALSE NEIGHBOUR: 'it returns false'. Refute it at one input. -/
def fnPartTextWrong : ChangeSpec := { name := "fnPartText", fn := fun _ => fun
  | [d] => { results := [.lit (.bool false)], args := [d] }
  | _ => none }
def FnPartTextWrongFalsely : Prop := fnPartTextRow.holds Try.pinned (OpenSpec.ofChange fnPartTextWrong)

/-- 'laws.FnPartOther': WHATEVER THE INPUT: true; the input reads as it did. -/
def fnPartOtherSpec : ChangeSpec := { name := "fnPartOther", fn := fun _ => fun
  | [d1, d2] => { results := [.lit (.bool true)], args := [d1, d2] }
  | _ => none }
def fnPartOtherRow : OpenClaim := { program := "ytimicibalhaljaa", sum := "52471c6c985d17a4d7cb84c6febdf0c40fc2c5e9abe1411114ff30a14c22f3da", func := "pub-bullarium/laws.FnPartOther", spec := "fnPartOther", unfollowed := true, recurses := true, apart := false }
def FnPartOtherSaid : Prop := fnPartOtherRow.holds Try.pinned (OpenSpec.ofChange fnPartOtherSpec)

/-- ITS FALSE NEIGHBOUR: 'it returns false'. Refute it at one input. -/
def fnPartOtherWrong : ChangeSpec := { name := "fnPartOther", fn := fun _ => fun
  | [d1, d2] => { results := [.lit (.bool false)], args := [d1, d2] }
  | _ => none }
def FnPartOtherWrongFalsely : Prop := fnPartOtherRow.holds Try.pinned (OpenSpec.ofChange fnPartOtherWrong)

/-- 'laws.FnPartSigning': WHATEVER THE INPUT: true; the input reads as it did. -/
def fnPartSigningSpec : ChangeSpec := { name := "fnPartSigning", fn := fun _ => fun
  | [d1, d2, d3, d4] => { results := [.lit (.bool true)], args := [d1, d2, d3, d4] }
  | _ => none }
def fnPartSigningRow : OpenClaim := { program := "ytimicibalhaljaa", sum := "52471c6c985d17a4d7cb84c6febdf0c40fc2c5e9abe1411114ff30a14c22f3da", func := "pub-bullarium/laws.FnPartSigning", spec := "fnPartSigning", unfollowed := true, recurses := true, apart := false }
def FnPartSigningSaid : Prop := fnPartSigningRow.holds Try.pinned (OpenSpec.ofChange fnPartSigningSpec)

/-- ITS FALSE NEIGHBOUR: 'it returns false'. Refute it at one input. -/
def fnPartSigningWrong : ChangeSpec := { name := "fnPartSigning", fn := fun _ => fun
  | [d1, d2, d3, d4] => { results := [.lit (.bool false)], args := [d1, d2, d3, d4] }
  | _ => none }
def FnPartSigningWrongFalsely : Prop := fnPartSigningRow.holds Try.pinned (OpenSpec.ofChange fnPartSigningWrong)

/-- 'laws.FnPartKeySize': WHATEVER THE INPUT: true; the input reads as it did. -/
def fnPartKeySizeSpec : ChangeSpec := { name := "fnPartKeySize", fn := fun _ => fun
  | [d1, d2] => { results := [.lit (.bool true)], args := [d1, d2] }
  | _ => none }
def fnPartKeySizeRow : OpenClaim := { program := "ytimicibalhaljaa", sum := "52471c6c985d17a4d7cb84c6febdf0c40fc2c5e9abe1411114ff30a14c22f3da", func := "pub-bullarium/laws.FnPartKeySize", spec := "fnPartKeySize", unfollowed := true, recurses := true, apart := false }
def FnPartKeySizeSaid : Prop := fnPartKeySizeRow.holds Try.pinned (OpenSpec.ofChange fnPartKeySizeSpec)

/-- ITS FALSE NEIGHBOUR: 'it returns false'. Refute it at one input. -/
def fnPartKeySizeWrong : ChangeSpec := { name := "fnPartKeySize", fn := fun _ => fun
  | [d1, d2] => { results := [.lit (.bool false)], args := [d1, d2] }
  | _ => none }
def FnPartKeySizeWrongFalsely : Prop := fnPartKeySizeRow.holds Try.pinned (OpenSpec.ofChange fnPartKeySizeWrong)

/-- 'laws.FnPartKeySizes': WHATEVER THE INPUT: true; the input reads as it did. -/
def fnPartKeySizesSpec : ChangeSpec := { name := "fnPartKeySizes", fn := fun _ => fun
  | [d1, d2, d3] => { results := [.lit (.bool true)], args := [d1, d2, d3] }
  | _ => none }
def fnPartKeySizesRow : OpenClaim := { program := "ytimicibalhaljaa", sum := "52471c6c985d17a4d7cb84c6febdf0c40fc2c5e9abe1411114ff30a14c22f3da", func := "pub-bullarium/laws.FnPartKeySizes", spec := "fnPartKeySizes", unfollowed := true, recurses := true, apart := false }
def FnPartKeySizesSaid : Prop := fnPartKeySizesRow.holds Try.pinned (OpenSpec.ofChange fnPartKeySizesSpec)

/-- ITS FALSE NEIGHBOUR: 'it returns false'. Refute it at one input. -/
def fnPartKeySizesWrong : ChangeSpec := { name := "fnPartKeySizes", fn := fun _ => fun
  | [d1, d2, d3] => { results := [.lit (.bool false)], args := [d1, d2, d3] }
  | _ => none }
def FnPartKeySizesWrongFalsely : Prop := fnPartKeySizesRow.holds Try.pinned (OpenSpec.ofChange fnPartKeySizesWrong)

/-- 'laws.FnPartBuffers': WHATEVER THE INPUT: true; the input reads as it did. -/
def fnPartBuffersSpec : ChangeSpec := { name := "fnPartBuffers", fn := fun _ => fun
  | [d1, d2, d3, d4, d5] => { results := [.lit (.bool true)], args := [d1, d2, d3, d4, d5] }
  | _ => none }
def fnPartBuffersRow : OpenClaim := { program := "ytimicibalhaljaa", sum := "52471c6c985d17a4d7cb84c6febdf0c40fc2c5e9abe1411114ff30a14c22f3da", func := "pub-bullarium/laws.FnPartBuffers", spec := "fnPartBuffers", unfollowed := true, recurses := true, apart := false }
def FnPartBuffersSaid : Prop := fnPartBuffersRow.holds Try.pinned (OpenSpec.ofChange fnPartBuffersSpec)

/-- ITS FALSE NEIGHBOUR: 'it returns false'. Refute it at one input. -/
def fnPartBuffersWrong : ChangeSpec := { name := "fnPartBuffers", fn := fun _ => fun
  | [d1, d2, d3, d4, d5] => { results := [.lit (.bool false)], args := [d1, d2, d3, d4, d5] }
  | _ => none }
def FnPartBuffersWrongFalsely : Prop := fnPartBuffersRow.holds Try.pinned (OpenSpec.ofChange fnPartBuffersWrong)

/- THE SECOND FORM. 'bulk': how many values and letters a reading holds, each counted each time it is reached (what is shared counts as often as it is met; a slice's spare places count too). A statement '..UptoSaid' is the law's where the arguments, and the package variables that the reading takes, are together of bulk at most 1048576: NARROWER than '..Said'. Prove '..Said' where nothing that the law and all that it calls make is longer than what came in: it says more and counts as full. Else prove '..UptoSaid'. A law counts once. -/
mutual
def uptoBulk {H : Type} : DataW H → Nat
  | .lit (.string bytes) => bytes.length + 1
  | .lit _ => 1
  | .nil => 1
  | .ptr d => uptoBulk d + 1
  | .slice elems spare => uptoBulkAll elems + uptoBulkAll spare + 1
  | .agg parts => uptoBulkAll parts + 1
  | .iface _ d => uptoBulk d + 1
  | .map entries => uptoBulkEntries entries + 1
  | .held _ => 1
def uptoBulkAll {H : Type} : List (DataW H) → Nat
  | [] => 0
  | d :: r => uptoBulk d + uptoBulkAll r
def uptoBulkEntries {H : Type} : List (Lit × DataW H) → Nat
  | [] => 0
  | x :: r => uptoBulkEntry x + uptoBulkEntries r
def uptoBulkEntry {H : Type} : Lit × DataW H → Nat
  | (.string bytes, d) => bytes.length + uptoBulk d + 1
  | (_, d) => uptoBulk d + 1
 end
def uptoSmall : (H : Type) → List (DataW H) → Bool := fun _ ds => decide (uptoBulkAll ds ≤ 1048576)
def OpenSpec.upto (s : _root_.Go.ChangeSpec) : _root_.Go.OpenSpec := { _root_.Go.OpenSpec.ofChange s with cond := some uptoSmall }

/-- 'laws.FnPartMixed', WHERE WHAT IT READS IS OF BULK AT MOST 1048576: true; the input reads as it did. -/
def fnPartMixedUptoRow : OpenClaim := { program := "ytimicibalhaljaa", sum := "52471c6c985d17a4d7cb84c6febdf0c40fc2c5e9abe1411114ff30a14c22f3da", func := "pub-bullarium/laws.FnPartMixed", spec := "fnPartMixed", unfollowed := true, recurses := true, apart := false, narrowed := true }
def FnPartMixedUptoSaid : Prop := fnPartMixedUptoRow.holds Try.pinned (OpenSpec.upto fnPartMixedSpec)

/-- 'laws.FnPartGroups', WHERE WHAT IT READS IS OF BULK AT MOST 1048576: true; the input reads as it did. -/
def fnPartGroupsUptoRow : OpenClaim := { program := "ytimicibalhaljaa", sum := "52471c6c985d17a4d7cb84c6febdf0c40fc2c5e9abe1411114ff30a14c22f3da", func := "pub-bullarium/laws.FnPartGroups", spec := "fnPartGroups", unfollowed := true, recurses := true, apart := false, narrowed := true }
def FnPartGroupsUptoSaid : Prop := fnPartGroupsUptoRow.holds Try.pinned (OpenSpec.upto fnPartGroupsSpec)

/-- 'laws.FnPartDecode', WHERE WHAT IT READS IS OF BULK AT MOST 1048576: true; the input reads as it did. -/
def fnPartDecodeUptoRow : OpenClaim := { program := "ytimicibalhaljaa", sum := "52471c6c985d17a4d7cb84c6febdf0c40fc2c5e9abe1411114ff30a14c22f3da", func := "pub-bullarium/laws.FnPartDecode", spec := "fnPartDecode", unfollowed := true, recurses := true, apart := false, narrowed := true }
def FnPartDecodeUptoSaid : Prop := fnPartDecodeUptoRow.holds Try.pinned (OpenSpec.upto fnPartDecodeSpec)

/-- 'laws.FnPartText', WHERE WHAT IT READS IS OF BULK AT MOST 1048576: true; the input reads as it did. -/
def fnPartTextUptoRow : OpenClaim := { program := "ytimicibalhaljaa", sum := "52471c6c985d17a4d7cb84c6febdf0c40fc2c5e9abe1411114ff30a14c22f3da", func := "pub-bullarium/laws.FnPartText", spec := "fnPartText", unfollowed := true, recurses := true, apart := false, narrowed := true }
def FnPartTextUptoSaid : Prop := fnPartTextUptoRow.holds Try.pinned (OpenSpec.upto fnPartTextSpec)

/-- 'laws.FnPartOther', WHERE WHAT IT READS IS OF BULK AT MOST 1048576: true; the input reads as it did. -/
def fnPartOtherUptoRow : OpenClaim := { program := "ytimicibalhaljaa", sum := "52471c6c985d17a4d7cb84c6febdf0c40fc2c5e9abe1411114ff30a14c22f3da", func := "pub-bullarium/laws.FnPartOther", spec := "fnPartOther", unfollowed := true, recurses := true, apart := false, narrowed := true }
def FnPartOtherUptoSaid : Prop := fnPartOtherUptoRow.holds Try.pinned (OpenSpec.upto fnPartOtherSpec)

/-- 'laws.FnPartSigning', WHERE WHAT IT READS IS OF BULK AT MOST 1048576: true; the input reads as it did. -/
def fnPartSigningUptoRow : OpenClaim := { program := "ytimicibalhaljaa", sum := "52471c6c985d17a4d7cb84c6febdf0c40fc2c5e9abe1411114ff30a14c22f3da", func := "pub-bullarium/laws.FnPartSigning", spec := "fnPartSigning", unfollowed := true, recurses := true, apart := false, narrowed := true }
def FnPartSigningUptoSaid : Prop := fnPartSigningUptoRow.holds Try.pinned (OpenSpec.upto fnPartSigningSpec)

/-- 'laws.FnPartKeySize', WHERE WHAT IT READS IS OF BULK AT MOST 1048576: true; the input reads as it did. -/
def fnPartKeySizeUptoRow : OpenClaim := { program := "ytimicibalhaljaa", sum := "52471c6c985d17a4d7cb84c6febdf0c40fc2c5e9abe1411114ff30a14c22f3da", func := "pub-bullarium/laws.FnPartKeySize", spec := "fnPartKeySize", unfollowed := true, recurses := true, apart := false, narrowed := true }
def FnPartKeySizeUptoSaid : Prop := fnPartKeySizeUptoRow.holds Try.pinned (OpenSpec.upto fnPartKeySizeSpec)

/-- 'laws.FnPartKeySizes', WHERE WHAT IT READS IS OF BULK AT MOST 1048576: true; the input reads as it did. -/
def fnPartKeySizesUptoRow : OpenClaim := { program := "ytimicibalhaljaa", sum := "52471c6c985d17a4d7cb84c6febdf0c40fc2c5e9abe1411114ff30a14c22f3da", func := "pub-bullarium/laws.FnPartKeySizes", spec := "fnPartKeySizes", unfollowed := true, recurses := true, apart := false, narrowed := true }
def FnPartKeySizesUptoSaid : Prop := fnPartKeySizesUptoRow.holds Try.pinned (OpenSpec.upto fnPartKeySizesSpec)

/-- 'laws.FnPartBuffers', WHERE WHAT IT READS IS OF BULK AT MOST 1048576: true; the input reads as it did. -/
def fnPartBuffersUptoRow : OpenClaim := { program := "ytimicibalhaljaa", sum := "52471c6c985d17a4d7cb84c6febdf0c40fc2c5e9abe1411114ff30a14c22f3da", func := "pub-bullarium/laws.FnPartBuffers", spec := "fnPartBuffers", unfollowed := true, recurses := true, apart := false, narrowed := true }
def FnPartBuffersUptoSaid : Prop := fnPartBuffersUptoRow.holds Try.pinned (OpenSpec.upto fnPartBuffersSpec)

end Rows
end Go.Proofs.Ytimicibalhaljaa
