/-
  No cell of these rows narrows 'for every input' (looked for: loops, veiled, ifaces, maps, wideKeys, modest, calm, conditions, laid).
  DERIVED. THE GIVEN ROWS OF THIS SEAT. 4 by the template 'for every input the law returns true; each argument reads behind the call as it read before'; 0 by the template 'total and deterministic' (their statements: YtefabkcfeekfiaaTotals.lean).
  GIVEN WITH THE SEED: the statements are not yours to turn. If you find one false, say at which input.
  Laid BY PROGRAM, IN A SANDBOX (cutbox-rows.mjs): the forced cells as the released guide's own fill.sh prints them over the translation d015c93508ae83dd… (all of the seat's roots in one cut). By AI agents, Wed Nov 11 2026. No macro, syntax, notation, axiom, sorry.
-/
import Derived.Test.YtefabkcfeekfiaaChecked
import GoSem.Claim
import GoSem.ClaimJoined
import GoSem.ClaimMapViews
import Derived.JoinedTies
import Derived.KernelRfl
namespace Go.Proofs.Ytefabkcfeekfiaa
/- THE CELL 'sum', in the pinned program and in every row, IS THE sha256 OF THE DUMP (.gsa) THAT YtefabkcfeekfiaaProg.lean LOADS. Nothing in Lean hashes anything: it is a label: what it is worth is what the hold of that sum in a sandbox is worth. -/
noncomputable def Try.pinned : Pinned := { name := "ytefabkcfeekfiaa", sum := "d015c93508ae83dd75a9281b6fb58482d58d5789a28ed2ae81a533b638134a98", checked := Try.checked }
namespace Rows
def none {H : Type} : Left H := { results := [], args := [] }

/-- 'laws.FnOptionWhole': WHATEVER THE INPUT: true; the input reads as it did. -/
def fnOptionWholeSpec : ChangeSpec := { name := "fnOptionWhole", fn := fun _ => fun
  | [d1, d2] => { results := [.lit (.bool true)], args := [d1, d2] }
  | _ => none }
def fnOptionWholeRow : OpenClaim := { program := "ytefabkcfeekfiaa", sum := "d015c93508ae83dd75a9281b6fb58482d58d5789a28ed2ae81a533b638134a98", func := "pub-bullarium/laws.FnOptionWhole", spec := "fnOptionWhole", apart := false }
def FnOptionWholeSaid : Prop := fnOptionWholeRow.holds Try.pinned (OpenSpec.ofChange fnOptionWholeSpec)

/-- ITS FALSE NEIGHBOUR: 'it returns false'. Refute it at one input. -/
def fnOptionWholeWrong : ChangeSpec := { name := "fnOptionWhole", fn := fun _ => fun
  | [d1, d2] => { results := [.lit (.bool false)], args := [d1, d2] }
  | _ => none }
def FnOptionWholeWrongFalsely : Prop := fnOptionWholeRow.holds Try.pinned (OpenSpec.ofChange fnOptionWholeWrong)

/-- 'laws.FnOptionAll': WHATEVER THE INPUT: true; the input reads as it did. -/
def fnOptionAllSpec : ChangeSpec := { name := "fnOptionAll", fn := fun _ => fun
  | [d1, d2] => { results := [.lit (.bool true)], args := [d1, d2] }
  | _ => none }
def fnOptionAllRow : OpenClaim := { program := "ytefabkcfeekfiaa", sum := "d015c93508ae83dd75a9281b6fb58482d58d5789a28ed2ae81a533b638134a98", func := "pub-bullarium/laws.FnOptionAll", spec := "fnOptionAll", apart := false }
def FnOptionAllSaid : Prop := fnOptionAllRow.holds Try.pinned (OpenSpec.ofChange fnOptionAllSpec)

/-- ITS FALSE NEIGHBOUR: 'it returns false'. Refute it at one input. -/
def fnOptionAllWrong : ChangeSpec := { name := "fnOptionAll", fn := fun _ => fun
  | [d1, d2] => { results := [.lit (.bool false)], args := [d1, d2] }
  | _ => none }
def FnOptionAllWrongFalsely : Prop := fnOptionAllRow.holds Try.pinned (OpenSpec.ofChange fnOptionAllWrong)

/-- 'laws.FnWrapPadded': WHATEVER THE INPUT: true; the input reads as it did. -/
def fnWrapPaddedSpec : ChangeSpec := { name := "fnWrapPadded", fn := fun _ => fun
  | [d1, d2, d3] => { results := [.lit (.bool true)], args := [d1, d2, d3] }
  | _ => none }
def fnWrapPaddedRow : OpenClaim := { program := "ytefabkcfeekfiaa", sum := "d015c93508ae83dd75a9281b6fb58482d58d5789a28ed2ae81a533b638134a98", func := "pub-bullarium/laws.FnWrapPadded", spec := "fnWrapPadded", apart := false }
def FnWrapPaddedSaid : Prop := fnWrapPaddedRow.holds Try.pinned (OpenSpec.ofChange fnWrapPaddedSpec)

/-- ITS FALSE NEIGHBOUR: 'it returns false'. Refute it at one input. -/
def fnWrapPaddedWrong : ChangeSpec := { name := "fnWrapPadded", fn := fun _ => fun
  | [d1, d2, d3] => { results := [.lit (.bool false)], args := [d1, d2, d3] }
  | _ => none }
def FnWrapPaddedWrongFalsely : Prop := fnWrapPaddedRow.holds Try.pinned (OpenSpec.ofChange fnWrapPaddedWrong)

/-- 'laws.FnWrapUnpad': WHATEVER THE INPUT: true; the input reads as it did. -/
def fnWrapUnpadSpec : ChangeSpec := { name := "fnWrapUnpad", fn := fun _ => fun
  | [d] => { results := [.lit (.bool true)], args := [d] }
  | _ => none }
def fnWrapUnpadRow : OpenClaim := { program := "ytefabkcfeekfiaa", sum := "d015c93508ae83dd75a9281b6fb58482d58d5789a28ed2ae81a533b638134a98", func := "pub-bullarium/laws.FnWrapUnpad", spec := "fnWrapUnpad", apart := false }
def FnWrapUnpadSaid : Prop := fnWrapUnpadRow.holds Try.pinned (OpenSpec.ofChange fnWrapUnpadSpec)

/-- ITS FALSE NEIGHBOUR: 'it returns false'. Refute it at one input. -/
def fnWrapUnpadWrong : ChangeSpec := { name := "fnWrapUnpad", fn := fun _ => fun
  | [d] => { results := [.lit (.bool false)], args := [d] }
  | _ => none }
def FnWrapUnpadWrongFalsely : Prop := fnWrapUnpadRow.holds Try.pinned (OpenSpec.ofChange fnWrapUnpadWrong)

/- THE SECOND FORM. 'bulk': how many values and letters a reading holds, each counted each time it is reached (what is shared counts as often as it is met; a slice's spare places count too). A statement '..UptoSaid' is the law's where the arguments, and the package variables that the reading takes, are together of bulk at most 1048576: NARROWER than '..Said'. Prove '..Said' where nothing that the law and all that it calls make is longer than what came in: it says more and counts as full. Else prove '..UptoSaid'. A law counts once. -/
mutual
def uptoBulk {H : Type} : DataW H → Nat
  | .lit (.string bytes) => bytes.length + 1
  | .lit _ => 1
  | .nil => 1
  | .ptr d => uptoBulk d + 1
  | .slice elems spare => uptoBulkAll elems + uptoBulkAll spare + 1
  | .agg parts => uptoBulkAll parts + 1
  | .iface _ d => uptoBulk d + 1
  | .map entries => uptoBulkEntries entries + 1
  | .held _ => 1
def uptoBulkAll {H : Type} : List (DataW H) → Nat
  | [] => 0
  | d :: r => uptoBulk d + uptoBulkAll r
def uptoBulkEntries {H : Type} : List (Lit × DataW H) → Nat
  | [] => 0
  | x :: r => uptoBulkEntry x + uptoBulkEntries r
def uptoBulkEntry {H : Type} : Lit × DataW H → Nat
  | (.string bytes, d) => bytes.length + uptoBulk d + 1
  | (_, d) => uptoBulk d + 1
 end
def uptoSmall : (H : Type) → List (DataW H) → Bool := fun _ ds => decide (uptoBulkAll ds ≤ 1048576)
def OpenSpec.upto (s : _root_.Go.ChangeSpec) : _root_.Go.OpenSpec := { _root_.Go.OpenSpec.ofChange s with cond := some uptoSmall }

/-- 'laws.FnOptionWhole', WHERE WHAT IT READS IS OF BULK AT MOST 1048576: true; the input reads as it did. -/
def fnOptionWholeUptoRow : OpenClaim := { program := "ytefabkcfeekfiaa", sum := "d015c93508ae83dd75a9281b6fb58482d58d5789a28ed2ae81a533b638134a98", func := "pub-bullarium/laws.FnOptionWhole", spec := "fnOptionWhole", apart := false, narrowed := true }
def FnOptionWholeUptoSaid : Prop := fnOptionWholeUptoRow.holds Try.pinned (OpenSpec.upto fnOptionWholeSpec)

/-- 'laws.FnOptionAll', WHERE WHAT IT READS IS OF BULK AT MOST 1048576: true; the input reads as it did. -/
def fnOptionAllUptoRow : OpenClaim := { program := "ytefabkcfeekfiaa", sum := "d015c93508ae83dd75a9281b6fb58482d58d5789a28ed2ae81a533b638134a98", func := "pub-bullarium/laws.FnOptionAll", spec := "fnOptionAll", apart := false, narrowed := true }
def FnOptionAllUptoSaid : Prop := fnOptionAllUptoRow.holds Try.pinned (OpenSpec.upto fnOptionAllSpec)

/-- 'laws.FnWrapPadded', WHERE WHAT IT READS IS OF BULK AT MOST 1048576: true; the input reads as it did. -/
def fnWrapPaddedUptoRow : OpenClaim := { program := "ytefabkcfeekfiaa", sum := "d015c93508ae83dd75a9281b6fb58482d58d5789a28ed2ae81a533b638134a98", func := "pub-bullarium/laws.FnWrapPadded", spec := "fnWrapPadded", apart := false, narrowed := true }
def FnWrapPaddedUptoSaid : Prop := fnWrapPaddedUptoRow.holds Try.pinned (OpenSpec.upto fnWrapPaddedSpec)

/-- 'laws.FnWrapUnpad', WHERE WHAT IT READS IS OF BULK AT MOST 1048576: true; the input reads as it did. -/
def fnWrapUnpadUptoRow : OpenClaim := { program := "ytefabkcfeekfiaa", sum := "d015c93508ae83dd75a9281b6fb58482d58d5789a28ed2ae81a533b638134a98", func := "pub-bullarium/laws.FnWrapUnpad", spec := "fnWrapUnpad", apart := false, narrowed := true }
def FnWrapUnpadUptoSaid : Prop := fnWrapUnpadUptoRow.holds Try.pinned (OpenSpec.upto fnWrapUnpadSpec)

end Rows
end Go.Proofs.Ytefabkcfeekfiaa
