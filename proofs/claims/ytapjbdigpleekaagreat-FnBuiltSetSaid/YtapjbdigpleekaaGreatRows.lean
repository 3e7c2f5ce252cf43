/-
  No cell of these rows narrows 'for every input' (looked for: loops, veiled, ifaces, maps, wideKeys, modest, calm, conditions, laid).
  DERIVED. THE GIVEN ROWS OF THIS SEAT. 10 by the template 'for every input the law returns true; each argument reads behind the call as it read before'; 0 by the template 'total and deterministic' (their statements: YtapjbdigpleekaaGreatTotals.lean).
  GIVEN WITH THE SEED: the statements are not yours to turn. If you find one false, say at which input.
  Laid BY PROGRAM, IN A SANDBOX (cutbox-rows.mjs): the forced cells as the released guide's own fill.sh prints them over the translation db1d3fee2b92093a… (all of the seat's roots in one cut). By AI agents, Wed Nov 11 2026. No macro, syntax, notation, axiom, sorry.
-/
import Derived.Test.YtapjbdigpleekaaGreatChecked
import GoSem.Claim
import GoSem.ClaimJoined
import GoSem.ClaimMapViews
import Derived.JoinedTies
import Derived.KernelRfl
namespace Go.Proofs.YtapjbdigpleekaaGreat
/- THE CELL 'sum', in the pinned program and in every row, IS THE sha256 OF THE DUMP (.gsa) THAT YtapjbdigpleekaaGreatProg.lean LOADS. Nothing in Lean hashes anything: it is a label: what it is worth is what the hold of that sum in a sandbox is worth. -/
noncomputable def Tryz.pinned : Pinned := { name := "ytapjbdigpleekaagreat", sum := "db1d3fee2b92093aef924888825a6b1f1e90d82ebc8cd731e79e0fdd0abf2806", checked := Tryz.checked }
namespace Rows
def none {H : Type} : Left H := { results := [], args := [] }

/-- 'laws.FnMapFiltered': WHATEVER THE INPUT: true; the input reads as it did. -/
def fnMapFilteredSpec : ChangeSpec := { name := "fnMapFiltered", fn := fun _ => fun
  | [d1, d2, d3] => { results := [.lit (.bool true)], args := [d1, d2, d3] }
  | _ => none }
def fnMapFilteredRow : OpenClaim := { program := "ytapjbdigpleekaagreat", sum := "db1d3fee2b92093aef924888825a6b1f1e90d82ebc8cd731e79e0fdd0abf2806", func := "pub-bullarium/laws.FnMapFiltered", spec := "fnMapFiltered", inPlace := ["internal/bytealg.abigen_runtime_cmpstring", "slices.overlaps[pub-bullarium/impl.Field]"], unfollowed := true, recurses := true, apart := false }
def FnMapFilteredSaid : Prop := fnMapFilteredRow.holds Tryz.pinned (OpenSpec.ofChange fnMapFilteredSpec)

/-- ITS FALSE NEIGHBOUR: 'it returns false'. Refute it at one input. -/
def fnMapFilteredWrong : ChangeSpec := { name := "fnMapFiltered", fn := fun _ => fun
  | [d1, d2, d3] => { results := [.lit (.bool false)], args := [d1, d2, d3] }
  | _ => none }
def FnMapFilteredWrongFalsely : Prop := fnMapFilteredRow.holds Tryz.pinned (OpenSpec.ofChange fnMapFilteredWrong)

/-- 'laws.FnMapFilterNames': WHATEVER THE INPUT: true; the input reads as it did. -/
def fnMapFilterNamesSpec : ChangeSpec := { name := "fnMapFilterNames", fn := fun _ => fun
  | [d1, d2, d3, d4] => { results := [.lit (.bool true)], args := [d1, d2, d3, d4] }
  | _ => none }
def fnMapFilterNamesRow : OpenClaim := { program := "ytapjbdigpleekaagreat", sum := "db1d3fee2b92093aef924888825a6b1f1e90d82ebc8cd731e79e0fdd0abf2806", func := "pub-bullarium/laws.FnMapFilterNames", spec := "fnMapFilterNames", inPlace := ["internal/bytealg.abigen_runtime_cmpstring", "slices.overlaps[pub-bullarium/impl.Field]"], unfollowed := true, recurses := true, apart := false }
def FnMapFilterNamesSaid : Prop := fnMapFilterNamesRow.holds Tryz.pinned (OpenSpec.ofChange fnMapFilterNamesSpec)

/-- ITS FALSE NEIGHBOUR: 'it returns false'. Refute it at one input. -/
def fnMapFilterNamesWrong : ChangeSpec := { name := "fnMapFilterNames", fn := fun _ => fun
  | [d1, d2, d3, d4] => { results := [.lit (.bool false)], args := [d1, d2, d3, d4] }
  | _ => none }
def FnMapFilterNamesWrongFalsely : Prop := fnMapFilterNamesRow.holds Tryz.pinned (OpenSpec.ofChange fnMapFilterNamesWrong)

/-- 'laws.FnMapFilterStandard': WHATEVER THE INPUT: true; the input reads as it did. -/
def fnMapFilterStandardSpec : ChangeSpec := { name := "fnMapFilterStandard", fn := fun _ => fun
  | [d1, d2, d3] => { results := [.lit (.bool true)], args := [d1, d2, d3] }
  | _ => none }
def fnMapFilterStandardRow : OpenClaim := { program := "ytapjbdigpleekaagreat", sum := "db1d3fee2b92093aef924888825a6b1f1e90d82ebc8cd731e79e0fdd0abf2806", func := "pub-bullarium/laws.FnMapFilterStandard", spec := "fnMapFilterStandard", inPlace := ["internal/bytealg.abigen_runtime_cmpstring", "slices.overlaps[pub-bullarium/impl.Field]"], unfollowed := true, recurses := true, apart := false }
def FnMapFilterStandardSaid : Prop := fnMapFilterStandardRow.holds Tryz.pinned (OpenSpec.ofChange fnMapFilterStandardSpec)

/-- ITS FALSE NEIGHBOUR: 'it returns false'. Refute it at one input. -/
def fnMapFilterStandardWrong : ChangeSpec := { name := "fnMapFilterStandard", fn := fun _ => fun
  | [d1, d2, d3] => { results := [.lit (.bool false)], args := [d1, d2, d3] }
  | _ => none }
def FnMapFilterStandardWrongFalsely : Prop := fnMapFilterStandardRow.holds Tryz.pinned (OpenSpec.ofChange fnMapFilterStandardWrong)

/-- 'laws.FnMapEmpty': WHATEVER THE INPUT: true; the input reads as it did. -/
def fnMapEmptySpec : ChangeSpec := { name := "fnMapEmpty", fn := fun _ => fun
  | [d1, d2] => { results := [.lit (.bool true)], args := [d1, d2] }
  | _ => none }
def fnMapEmptyRow : OpenClaim := { program := "ytapjbdigpleekaagreat", sum := "db1d3fee2b92093aef924888825a6b1f1e90d82ebc8cd731e79e0fdd0abf2806", func := "pub-bullarium/laws.FnMapEmpty", spec := "fnMapEmpty", inPlace := ["internal/bytealg.abigen_runtime_cmpstring"], unfollowed := true, recurses := true, apart := false }
def FnMapEmptySaid : Prop := fnMapEmptyRow.holds Tryz.pinned (OpenSpec.ofChange fnMapEmptySpec)

/-- ITS FALSE NEIGHBOUR: 'it returns false'. Refute it at one input. -/
def fnMapEmptyWrong : ChangeSpec := { name := "fnMapEmpty", fn := fun _ => fun
  | [d1, d2] => { results := [.lit (.bool false)], args := [d1, d2] }
  | _ => none }
def FnMapEmptyWrongFalsely : Prop := fnMapEmptyRow.holds Tryz.pinned (OpenSpec.ofChange fnMapEmptyWrong)

/-- 'laws.FnMapTexts': WHATEVER THE INPUT: true; the input reads as it did. -/
def fnMapTextsSpec : ChangeSpec := { name := "fnMapTexts", fn := fun _ => fun
  | [d1, d2, d3] => { results := [.lit (.bool true)], args := [d1, d2, d3] }
  | _ => none }
def fnMapTextsRow : OpenClaim := { program := "ytapjbdigpleekaagreat", sum := "db1d3fee2b92093aef924888825a6b1f1e90d82ebc8cd731e79e0fdd0abf2806", func := "pub-bullarium/laws.FnMapTexts", spec := "fnMapTexts", inPlace := ["internal/bytealg.abigen_runtime_cmpstring"], unfollowed := true, recurses := true, apart := false }
def FnMapTextsSaid : Prop := fnMapTextsRow.holds Tryz.pinned (OpenSpec.ofChange fnMapTextsSpec)

/-- ITS FALSE NEIGHBOUR: 'it returns false'. Refute it at one input. -/
def fnMapTextsWrong : ChangeSpec := { name := "fnMapTexts", fn := fun _ => fun
  | [d1, d2, d3] => { results := [.lit (.bool false)], args := [d1, d2, d3] }
  | _ => none }
def FnMapTextsWrongFalsely : Prop := fnMapTextsRow.holds Tryz.pinned (OpenSpec.ofChange fnMapTextsWrong)

/-- 'laws.FnMapHalves': WHATEVER THE INPUT: true; the input reads as it did. -/
def fnMapHalvesSpec : ChangeSpec := { name := "fnMapHalves", fn := fun _ => fun
  | [d1, d2, d3] => { results := [.lit (.bool true)], args := [d1, d2, d3] }
  | _ => none }
def fnMapHalvesRow : OpenClaim := { program := "ytapjbdigpleekaagreat", sum := "db1d3fee2b92093aef924888825a6b1f1e90d82ebc8cd731e79e0fdd0abf2806", func := "pub-bullarium/laws.FnMapHalves", spec := "fnMapHalves", inPlace := ["internal/bytealg.abigen_runtime_cmpstring"], unfollowed := true, recurses := true, apart := false }
def FnMapHalvesSaid : Prop := fnMapHalvesRow.holds Tryz.pinned (OpenSpec.ofChange fnMapHalvesSpec)

/-- ITS FALSE NEIGHBOUR: 'it returns false'. Refute it at one input. -/
def fnMapHalvesWrong : ChangeSpec := { name := "fnMapHalves", fn := fun _ => fun
  | [d1, d2, d3] => { results := [.lit (.bool false)], args := [d1, d2, d3] }
  | _ => none }
def FnMapHalvesWrongFalsely : Prop := fnMapHalvesRow.holds Tryz.pinned (OpenSpec.ofChange fnMapHalvesWrong)

/-- 'laws.FnBuiltSet': WHATEVER THE INPUT: true; the input reads as it did. -/
def fnBuiltSetSpec : ChangeSpec := { name := "fnBuiltSet", fn := fun _ => fun
  | [d] => { results := [.lit (.bool true)], args := [d] }
  | _ => none }
def fnBuiltSetRow : OpenClaim := { program := "ytapjbdigpleekaagreat", sum := "db1d3fee2b92093aef924888825a6b1f1e90d82ebc8cd731e79e0fdd0abf2806", func := "pub-bullarium/laws.FnBuiltSet", spec := "fnBuiltSet", inPlace := ["internal/bytealg.abigen_runtime_cmpstring"], unfollowed := true, recurses := true, apart := false }
def FnBuiltSetSaid : Prop := fnBuiltSetRow.holds Tryz.pinned (OpenSpec.ofChange fnBuiltSetSpec)

/-- ITS FALSE NEIGHBOUR: 'it returns false'. Refute it at one input. -/
def fnBuiltSetWrong : ChangeSpec := { name := "fnBuiltSet", fn := fun _ => fun
  | [d] => { results := [.lit (.bool false)], args := [d] }
  | _ => none }
def FnBuiltSetWrongFalsely : Prop := fnBuiltSetRow.holds Tryz.pinned (OpenSpec.ofChange fnBuiltSetWrong)

/-- 'laws.FnMapOrder': WHATEVER THE INPUT: true; the input reads as it did. -/
def fnMapOrderSpec : ChangeSpec := { name := "fnMapOrder", fn := fun _ => fun
  | [d1, d2] => { results := [.lit (.bool true)], args := [d1, d2] }
  | _ => none }
def fnMapOrderRow : OpenClaim := { program := "ytapjbdigpleekaagreat", sum := "db1d3fee2b92093aef924888825a6b1f1e90d82ebc8cd731e79e0fdd0abf2806", func := "pub-bullarium/laws.FnMapOrder", spec := "fnMapOrder", inPlace := ["internal/bytealg.abigen_runtime_cmpstring", "slices.overlaps[pub-bullarium/impl.Field]"], unfollowed := true, recurses := true, apart := false }
def FnMapOrderSaid : Prop := fnMapOrderRow.holds Tryz.pinned (OpenSpec.ofChange fnMapOrderSpec)

/-- ITS FALSE NEIGHBOUR: 'it returns false'. Refute it at one input. -/
def fnMapOrderWrong : ChangeSpec := { name := "fnMapOrder", fn := fun _ => fun
  | [d1, d2] => { results := [.lit (.bool false)], args := [d1, d2] }
  | _ => none }
def FnMapOrderWrongFalsely : Prop := fnMapOrderRow.holds Tryz.pinned (OpenSpec.ofChange fnMapOrderWrong)

/-- 'laws.FnMapCloned': WHATEVER THE INPUT: true; the input reads as it did. -/
def fnMapClonedSpec : ChangeSpec := { name := "fnMapCloned", fn := fun _ => fun
  | [d1, d2, d3] => { results := [.lit (.bool true)], args := [d1, d2, d3] }
  | _ => none }
def fnMapClonedRow : OpenClaim := { program := "ytapjbdigpleekaagreat", sum := "db1d3fee2b92093aef924888825a6b1f1e90d82ebc8cd731e79e0fdd0abf2806", func := "pub-bullarium/laws.FnMapCloned", spec := "fnMapCloned", inPlace := ["internal/bytealg.abigen_runtime_cmpstring", "slices.overlaps[pub-bullarium/impl.Field]"], unfollowed := true, recurses := true, apart := false }
def FnMapClonedSaid : Prop := fnMapClonedRow.holds Tryz.pinned (OpenSpec.ofChange fnMapClonedSpec)

/-- ITS FALSE NEIGHBOUR: 'it returns false'. Refute it at one input. -/
def fnMapClonedWrong : ChangeSpec := { name := "fnMapCloned", fn := fun _ => fun
  | [d1, d2, d3] => { results := [.lit (.bool false)], args := [d1, d2, d3] }
  | _ => none }
def FnMapClonedWrongFalsely : Prop := fnMapClonedRow.holds Tryz.pinned (OpenSpec.ofChange fnMapClonedWrong)

/-- 'laws.FnMapMergeSet': WHATEVER THE INPUT: true; the input reads as it did. -/
def fnMapMergeSetSpec : ChangeSpec := { name := "fnMapMergeSet", fn := fun _ => fun
  | [d1, d2, d3] => { results := [.lit (.bool true)], args := [d1, d2, d3] }
  | _ => none }
def fnMapMergeSetRow : OpenClaim := { program := "ytapjbdigpleekaagreat", sum := "db1d3fee2b92093aef924888825a6b1f1e90d82ebc8cd731e79e0fdd0abf2806", func := "pub-bullarium/laws.FnMapMergeSet", spec := "fnMapMergeSet", inPlace := ["internal/bytealg.abigen_runtime_cmpstring", "slices.overlaps[pub-bullarium/impl.Field]"], unfollowed := true, recurses := true, apart := false }
def FnMapMergeSetSaid : Prop := fnMapMergeSetRow.holds Tryz.pinned (OpenSpec.ofChange fnMapMergeSetSpec)

/-- ITS FALSE NEIGHBOUR: 'it returns false'. Refute it at one input. -/
def fnMapMergeSetWrong : ChangeSpec := { name := "fnMapMergeSet", fn := fun _ => fun
  | [d1, d2, d3] => { results := [.lit (.bool false)], args := [d1, d2, d3] }
  | _ => none }
def FnMapMergeSetWrongFalsely : Prop := fnMapMergeSetRow.holds Tryz.pinned (OpenSpec.ofChange fnMapMergeSetWrong)

/- THE SECOND FORM. 'bulk': how many values and letters a reading holds, each counted each time it is reached (what is shared counts as often as it is met; a slice's spare places count too). A statement '..UptoSaid' is the law's where the arguments, and the package variables that the reading takes, are together of bulk at most 1048576: NARROWER than '..Said'. Prove '..Said' where nothing that the law and all that it calls make is longer than what came in: it says more and counts as full. Else prove '..UptoSaid'. A law counts once. -/
mutual
def uptoBulk {H : Type} : DataW H → Nat
  | .lit (.string bytes) => bytes.length + 1
  | .lit _ => 1
  | .nil => 1
  | .ptr d => uptoBulk d + 1
  | .slice elems spare => uptoBulkAll elems + uptoBulkAll spare + 1
  | .agg parts => uptoBulkAll parts + 1
  | .iface _ d => uptoBulk d + 1
  | .map entries => uptoBulkEntries entries + 1
  | .held _ => 1
def uptoBulkAll {H : Type} : List (DataW H) → Nat
  | [] => 0
  | d :: r => uptoBulk d + uptoBulkAll r
def uptoBulkEntries {H : Type} : List (Lit × DataW H) → Nat
  | [] => 0
  | x :: r => uptoBulkEntry x + uptoBulkEntries r
def uptoBulkEntry {H : Type} : Lit × DataW H → Nat
  | (.string bytes, d) => bytes.length + uptoBulk d + 1
  | (_, d) => uptoBulk d + 1
 end
def uptoSmall : (H : Type) → List (DataW H) → Bool := fun _ ds => decide (uptoBulkAll ds ≤ 1048576)
def OpenSpec.upto (s : _root_.Go.ChangeSpec) : _root_.Go.OpenSpec := { _root_.Go.OpenSpec.ofChange s with cond := some uptoSmall }

/-- 'laws.FnMapFiltered', WHERE WHAT IT READS IS OF BULK AT MOST 1048576: true; the input reads as it did. -/
def fnMapFilteredUptoRow : OpenClaim := { program := "ytapjbdigpleekaagreat", sum := "db1d3fee2b92093aef924888825a6b1f1e90d82ebc8cd731e79e0fdd0abf2806", func := "pub-bullarium/laws.FnMapFiltered", spec := "fnMapFiltered", inPlace := ["internal/bytealg.abigen_runtime_cmpstring", "slices.overlaps[pub-bullarium/impl.Field]"], unfollowed := true, recurses := true, apart := false, narrowed := true }
def FnMapFilteredUptoSaid : Prop := fnMapFilteredUptoRow.holds Tryz.pinned (OpenSpec.upto fnMapFilteredSpec)

/-- 'laws.FnMapFilterNames', WHERE WHAT IT READS IS OF BULK AT MOST 1048576: true; the input reads as it did. -/
def fnMapFilterNamesUptoRow : OpenClaim := { program := "ytapjbdigpleekaagreat", sum := "db1d3fee2b92093aef924888825a6b1f1e90d82ebc8cd731e79e0fdd0abf2806", func := "pub-bullarium/laws.FnMapFilterNames", spec := "fnMapFilterNames", inPlace := ["internal/bytealg.abigen_runtime_cmpstring", "slices.overlaps[pub-bullarium/impl.Field]"], unfollowed := true, recurses := true, apart := false, narrowed := true }
def FnMapFilterNamesUptoSaid : Prop := fnMapFilterNamesUptoRow.holds Tryz.pinned (OpenSpec.upto fnMapFilterNamesSpec)

/-- 'laws.FnMapFilterStandard', WHERE WHAT IT READS IS OF BULK AT MOST 1048576: true; the input reads as it did. -/
def fnMapFilterStandardUptoRow : OpenClaim := { program := "ytapjbdigpleekaagreat", sum := "db1d3fee2b92093aef924888825a6b1f1e90d82ebc8cd731e79e0fdd0abf2806", func := "pub-bullarium/laws.FnMapFilterStandard", spec := "fnMapFilterStandard", inPlace := ["internal/bytealg.abigen_runtime_cmpstring", "slices.overlaps[pub-bullarium/impl.Field]"], unfollowed := true, recurses := true, apart := false, narrowed := true }
def FnMapFilterStandardUptoSaid : Prop := fnMapFilterStandardUptoRow.holds Tryz.pinned (OpenSpec.upto fnMapFilterStandardSpec)

/-- 'laws.FnMapEmpty', WHERE WHAT IT READS IS OF BULK AT MOST 1048576: true; the input reads as it did. -/
def fnMapEmptyUptoRow : OpenClaim := { program := "ytapjbdigpleekaagreat", sum := "db1d3fee2b92093aef924888825a6b1f1e90d82ebc8cd731e79e0fdd0abf2806", func := "pub-bullarium/laws.FnMapEmpty", spec := "fnMapEmpty", inPlace := ["internal/bytealg.abigen_runtime_cmpstring"], unfollowed := true, recurses := true, apart := false, narrowed := true }
def FnMapEmptyUptoSaid : Prop := fnMapEmptyUptoRow.holds Tryz.pinned (OpenSpec.upto fnMapEmptySpec)

/-- 'laws.FnMapTexts', WHERE WHAT IT READS IS OF BULK AT MOST 1048576: true; the input reads as it did. -/
def fnMapTextsUptoRow : OpenClaim := { program := "ytapjbdigpleekaagreat", sum := "db1d3fee2b92093aef924888825a6b1f1e90d82ebc8cd731e79e0fdd0abf2806", func := "pub-bullarium/laws.FnMapTexts", spec := "fnMapTexts", inPlace := ["internal/bytealg.abigen_runtime_cmpstring"], unfollowed := true, recurses := true, apart := false, narrowed := true }
def FnMapTextsUptoSaid : Prop := fnMapTextsUptoRow.holds Tryz.pinned (OpenSpec.upto fnMapTextsSpec)

/-- 'laws.FnMapHalves', WHERE WHAT IT READS IS OF BULK AT MOST 1048576: true; the input reads as it did. -/
def fnMapHalvesUptoRow : OpenClaim := { program := "ytapjbdigpleekaagreat", sum := "db1d3fee2b92093aef924888825a6b1f1e90d82ebc8cd731e79e0fdd0abf2806", func := "pub-bullarium/laws.FnMapHalves", spec := "fnMapHalves", inPlace := ["internal/bytealg.abigen_runtime_cmpstring"], unfollowed := true, recurses := true, apart := false, narrowed := true }
def FnMapHalvesUptoSaid : Prop := fnMapHalvesUptoRow.holds Tryz.pinned (OpenSpec.upto fnMapHalvesSpec)

/-- 'laws.FnBuiltSet', WHERE WHAT IT READS IS OF BULK AT MOST 1048576: true; the input reads as it did. -/
def fnBuiltSetUptoRow : OpenClaim := { program := "ytapjbdigpleekaagreat", sum := "db1d3fee2b92093aef924888825a6b1f1e90d82ebc8cd731e79e0fdd0abf2806", func := "pub-bullarium/laws.FnBuiltSet", spec := "fnBuiltSet", inPlace := ["internal/bytealg.abigen_runtime_cmpstring"], unfollowed := true, recurses := true, apart := false, narrowed := true }
def FnBuiltSetUptoSaid : Prop := fnBuiltSetUptoRow.holds Tryz.pinned (OpenSpec.upto fnBuiltSetSpec)

/-- 'laws.FnMapOrder', WHERE WHAT IT READS IS OF BULK AT MOST 1048576: true; the input reads as it did. -/
def fnMapOrderUptoRow : OpenClaim := { program := "ytapjbdigpleekaagreat", sum := "db1d3fee2b92093aef924888825a6b1f1e90d82ebc8cd731e79e0fdd0abf2806", func := "pub-bullarium/laws.FnMapOrder", spec := "fnMapOrder", inPlace := ["internal/bytealg.abigen_runtime_cmpstring", "slices.overlaps[pub-bullarium/impl.Field]"], unfollowed := true, recurses := true, apart := false, narrowed := true }
def FnMapOrderUptoSaid : Prop := fnMapOrderUptoRow.holds Tryz.pinned (OpenSpec.upto fnMapOrderSpec)

/-- 'laws.FnMapCloned', WHERE WHAT IT READS IS OF BULK AT MOST 1048576: true; the input reads as it did. -/
def fnMapClonedUptoRow : OpenClaim := { program := "ytapjbdigpleekaagreat", sum := "db1d3fee2b92093aef924888825a6b1f1e90d82ebc8cd731e79e0fdd0abf2806", func := "pub-bullarium/laws.FnMapCloned", spec := "fnMapCloned", inPlace := ["internal/bytealg.abigen_runtime_cmpstring", "slices.overlaps[pub-bullarium/impl.Field]"], unfollowed := true, recurses := true, apart := false, narrowed := true }
def FnMapClonedUptoSaid : Prop := fnMapClonedUptoRow.holds Tryz.pinned (OpenSpec.upto fnMapClonedSpec)

/-- 'laws.FnMapMergeSet', WHERE WHAT IT READS IS OF BULK AT MOST 1048576: true; the input reads as it did. -/
def fnMapMergeSetUptoRow : OpenClaim := { program := "ytapjbdigpleekaagreat", sum := "db1d3fee2b92093aef924888825a6b1f1e90d82ebc8cd731e79e0fdd0abf2806", func := "pub-bullarium/laws.FnMapMergeSet", spec := "fnMapMergeSet", inPlace := ["internal/bytealg.abigen_runtime_cmpstring", "slices.overlaps[pub-bullarium/impl.Field]"], unfollowed := true, recurses := true, apart := false, narrowed := true }
def FnMapMergeSetUptoSaid : Prop := fnMapMergeSetUptoRow.holds Tryz.pinned (OpenSpec.upto fnMapMergeSetSpec)

end Rows
end Go.Proofs.YtapjbdigpleekaaGreat
