/-
  NARROWER THAN 'FOR EVERY INPUT', by the rows' own cells (each row's printed sentence says how): FnPartSegments: laid.
  DERIVED. THE GIVEN ROWS OF THIS SEAT. 1 by the template 'for every input the law returns true; each argument reads behind the call as it read before'; 0 by the template 'total and deterministic' (their statements: YtimicibalhaljaaDoorTotals.lean).
  GIVEN WITH THE SEED: the statements are not yours to turn. If you find one false, say at which input.
  Laid BY PROGRAM, IN A SANDBOX (cutbox-rows.mjs): the forced cells as the released guide's own fill.sh prints them over the translation 5fe761ddaac1a1a3… (all of the seat's roots in one cut). By AI agents, Wed Nov 11 2026. No macro, syntax, notation, axiom, sorry.
-/
import Derived.Test.YtimicibalhaljaaDoorChecked
import GoSem.Claim
import GoSem.ClaimJoined
import GoSem.ClaimMapViews
import Derived.JoinedTies
import Derived.KernelRfl
namespace Go.Proofs.YtimicibalhaljaaDoor
/- THE CELL 'sum', in the pinned program and in every row, IS THE sha256 OF THE DUMP (.gsa) THAT YtimicibalhaljaaDoorProg.lean LOADS. Nothing in Lean hashes anything: it is a label: what it is worth is what the hold of that sum in a sandbox is worth. -/
noncomputable def Tryd.pinned : Pinned := { name := "ytimicibalhaljaadoor", sum := "5fe761ddaac1a1a34bce431fca6e3e08fa4bf72663fadede3b2e02210cc7656b", checked := Tryd.checked }
namespace Rows
def none {H : Type} : Left H := { results := [], args := [] }

/- WHAT THE LISTED PACKAGE-LEVEL VARIABLES READ AS WHEN THE CALL BEGINS. Each datum BY PROGRAM (the guide's laid-datum.mjs) off the statement by which the dump's own 'gosem.cut.vars' lays the variable. In a bare row this is a premise. The card (YtimicibalhaljaaDoorCards.lean) ties it to the program's text. -/
def laid_pub_bullarium_pub_jwx_jws_jwsbb_errInvalidNumberOfSegments {H : Type} : DataW H := .iface "*errors.errorString" (.ptr (.agg [.lit (.string [106, 119, 115, 98, 98, 58, 32, 105, 110, 118, 97, 108, 105, 100, 32, 110, 117, 109, 98, 101, 114, 32, 111, 102, 32, 115, 101, 103, 109, 101, 110, 116, 115])]))

/-- 'laws.FnPartSegments': WHATEVER THE INPUT: true; the input reads as it did. -/
def fnPartSegmentsSpec : ChangeSpec := { name := "fnPartSegments", fn := fun _ => fun
  | [d1, d2, d3] => { results := [.lit (.bool true)], args := [d1, d2, d3] }
  | _ => none }
def fnPartSegmentsRow : OpenClaim := { program := "ytimicibalhaljaadoor", sum := "5fe761ddaac1a1a34bce431fca6e3e08fa4bf72663fadede3b2e02210cc7656b", func := "pub-bullarium/laws.FnPartSegments", spec := "fnPartSegments", unfollowed := true, recurses := true, named := ["pub-bullarium/pub/jwx/jws/jwsbb.errInvalidNumberOfSegments"], apart := false, laid := [("pub-bullarium/pub/jwx/jws/jwsbb.errInvalidNumberOfSegments", laid_pub_bullarium_pub_jwx_jws_jwsbb_errInvalidNumberOfSegments)] }
def FnPartSegmentsSaid : Prop := fnPartSegmentsRow.holds Tryd.pinned (OpenSpec.ofChange fnPartSegmentsSpec)

/-- ITS FALSE NEIGHBOUR: 'it returns false'. Refute it at one input. -/
def fnPartSegmentsWrong : ChangeSpec := { name := "fnPartSegments", fn := fun _ => fun
  | [d1, d2, d3] => { results := [.lit (.bool false)], args := [d1, d2, d3] }
  | _ => none }
def FnPartSegmentsWrongFalsely : Prop := fnPartSegmentsRow.holds Tryd.pinned (OpenSpec.ofChange fnPartSegmentsWrong)

/- THE SECOND FORM. 'bulk': how many values and letters a reading holds, each counted each time it is reached (what is shared counts as often as it is met; a slice's spare places count too). A statement '..UptoSaid' is the law's where the arguments, and the package variables that the reading takes, are together of bulk at most 1048576: NARROWER than '..Said'. Prove '..Said' where nothing that the law and all that it calls make is longer than what came in: it says more and counts as full. Else prove '..UptoSaid'. A law counts once. -/
mutual
def uptoBulk {H : Type} : DataW H → Nat
  | .lit (.string bytes) => bytes.length + 1
  | .lit _ => 1
  | .nil => 1
  | .ptr d => uptoBulk d + 1
  | .slice elems spare => uptoBulkAll elems + uptoBulkAll spare + 1
  | .agg parts => uptoBulkAll parts + 1
  | .iface _ d => uptoBulk d + 1
  | .map entries => uptoBulkEntries entries + 1
  | .held _ => 1
def uptoBulkAll {H : Type} : List (DataW H) → Nat
  | [] => 0
  | d :: r => uptoBulk d + uptoBulkAll r
def uptoBulkEntries {H : Type} : List (Lit × DataW H) → Nat
  | [] => 0
  | x :: r => uptoBulkEntry x + uptoBulkEntries r
def uptoBulkEntry {H : Type} : Lit × DataW H → Nat
  | (.string bytes, d) => bytes.length + uptoBulk d + 1
  | (_, d) => uptoBulk d + 1
 end
def uptoSmall : (H : Type) → List (DataW H) → Bool := fun _ ds => decide (uptoBulkAll ds ≤ 1048576)
def OpenSpec.upto (s : _root_.Go.ChangeSpec) : _root_.Go.OpenSpec := { _root_.Go.OpenSpec.ofChange s with cond := some uptoSmall }

/-- 'laws.FnPartSegments', WHERE WHAT IT READS IS OF BULK AT MOST 1048576: true; the input reads as it did. -/
def fnPartSegmentsUptoRow : OpenClaim := { program := "ytimicibalhaljaadoor", sum := "5fe761ddaac1a1a34bce431fca6e3e08fa4bf72663fadede3b2e02210cc7656b", func := "pub-bullarium/laws.FnPartSegments", spec := "fnPartSegments", unfollowed := true, recurses := true, named := ["pub-bullarium/pub/jwx/jws/jwsbb.errInvalidNumberOfSegments"], apart := false, laid := [("pub-bullarium/pub/jwx/jws/jwsbb.errInvalidNumberOfSegments", laid_pub_bullarium_pub_jwx_jws_jwsbb_errInvalidNumberOfSegments)], narrowed := true }
def FnPartSegmentsUptoSaid : Prop := fnPartSegmentsUptoRow.holds Tryd.pinned (OpenSpec.upto fnPartSegmentsSpec)

end Rows
end Go.Proofs.YtimicibalhaljaaDoor
