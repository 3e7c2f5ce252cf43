/-
  NARROWER THAN 'FOR EVERY INPUT', by the rows' own cells (each row's printed sentence says how): FnKeyFields: laid · FnKeyFieldNames: laid · FnKeySetIndex: laid · FnKeySetApart: laid.
  DERIVED. THE GIVEN ROWS OF THIS SEAT. 4 by the template 'for every input the law returns true; each argument reads behind the call as it read before'; 0 by the template 'total and deterministic' (their statements: YtlbnemnadegapaaDoorTotals.lean).
  GIVEN WITH THE SEED: the statements are not yours to turn. If you find one false, say at which input.
  Laid BY PROGRAM, IN A SANDBOX (cutbox-rows.mjs): the forced cells as the released guide's own fill.sh prints them over the translation d26d25d85ff8fc90… (all of the seat's roots in one cut). By AI agents, Wed Nov 11 2026. No macro, syntax, notation, axiom, sorry.
-/
import Derived.Test.YtlbnemnadegapaaDoorChecked
import GoSem.Claim
import GoSem.ClaimJoined
import GoSem.ClaimMapViews
import Derived.JoinedTies
import Derived.KernelRfl
namespace Go.Proofs.YtlbnemnadegapaaDoor
/- THE CELL 'sum', in the pinned program and in every row, IS THE sha256 OF THE DUMP (.gsa) THAT YtlbnemnadegapaaDoorProg.lean LOADS. Nothing in Lean hashes anything: it is a label: what it is worth is what the hold of that sum in a sandbox is worth. -/
noncomputable def Tryd.pinned : Pinned := { name := "ytlbnemnadegapaadoor", sum := "d26d25d85ff8fc90c391c3528bb2f34ce99cb148eb82499dd6d638b9628312cb", checked := Tryd.checked }
namespace Rows
def none {H : Type} : Left H := { results := [], args := [] }

/- WHAT THE LISTED PACKAGE-LEVEL VARIABLES READ AS WHEN THE CALL BEGINS. Each datum BY PROGRAM (the guide's laid-datum.mjs) off the statement by which the dump's own 'gosem.cut.vars' lays the variable. In a bare row this is a premise. The card (YtlbnemnadegapaaDoorCards.lean) ties it to the program's text. -/
def laid_pub_bullarium_pub_jwx_jwa_errInvalidKeyAlgorithm {H : Type} : DataW H := .iface "*errors.errorString" (.ptr (.agg [.lit (.string [105, 110, 118, 97, 108, 105, 100, 32, 107, 101, 121, 32, 97, 108, 103, 111, 114, 105, 116, 104, 109])]))

/-- 'laws.FnKeyFields': WHATEVER THE INPUT: true; the input reads as it did. -/
def fnKeyFieldsSpec : ChangeSpec := { name := "fnKeyFields", fn := fun _ => fun
  | [d1, d2] => { results := [.lit (.bool true)], args := [d1, d2] }
  | _ => none }
def fnKeyFieldsRow : OpenClaim := { program := "ytlbnemnadegapaadoor", sum := "d26d25d85ff8fc90c391c3528bb2f34ce99cb148eb82499dd6d638b9628312cb", func := "pub-bullarium/laws.FnKeyFields", spec := "fnKeyFields", unfollowed := true, recurses := true, named := ["pub-bullarium/pub/jwx/jwa.errInvalidKeyAlgorithm"], apart := false, laid := [("pub-bullarium/pub/jwx/jwa.errInvalidKeyAlgorithm", laid_pub_bullarium_pub_jwx_jwa_errInvalidKeyAlgorithm)] }
def FnKeyFieldsSaid : Prop := fnKeyFieldsRow.holds Tryd.pinned (OpenSpec.ofChange fnKeyFieldsSpec)

/-- ITS FALSE NEIGHBOUR: 'it returns false'. Refute it at one input. -/
def fnKeyFieldsWrong : ChangeSpec := { name := "fnKeyFields", fn := fun _ => fun
  | [d1, d2] => { results := [.lit (.bool false)], args := [d1, d2] }
  | _ => none }
def FnKeyFieldsWrongFalsely : Prop := fnKeyFieldsRow.holds Tryd.pinned (OpenSpec.ofChange fnKeyFieldsWrong)

/-- 'laws.FnKeyFieldNames': WHATEVER THE INPUT: true; the input reads as it did. -/
def fnKeyFieldNamesSpec : ChangeSpec := { name := "fnKeyFieldNames", fn := fun _ => fun
  | [d1, d2] => { results := [.lit (.bool true)], args := [d1, d2] }
  | _ => none }
def fnKeyFieldNamesRow : OpenClaim := { program := "ytlbnemnadegapaadoor", sum := "d26d25d85ff8fc90c391c3528bb2f34ce99cb148eb82499dd6d638b9628312cb", func := "pub-bullarium/laws.FnKeyFieldNames", spec := "fnKeyFieldNames", unfollowed := true, recurses := true, named := ["pub-bullarium/pub/jwx/jwa.errInvalidKeyAlgorithm"], apart := false, laid := [("pub-bullarium/pub/jwx/jwa.errInvalidKeyAlgorithm", laid_pub_bullarium_pub_jwx_jwa_errInvalidKeyAlgorithm)] }
def FnKeyFieldNamesSaid : Prop := fnKeyFieldNamesRow.holds Tryd.pinned (OpenSpec.ofChange fnKeyFieldNamesSpec)

/-- ITS FALSE NEIGHBOUR: 'it returns false'. Refute it at one input. -/
def fnKeyFieldNamesWrong : ChangeSpec := { name := "fnKeyFieldNames", fn := fun _ => fun
  | [d1, d2] => { results := [.lit (.bool false)], args := [d1, d2] }
  | _ => none }
def FnKeyFieldNamesWrongFalsely : Prop := fnKeyFieldNamesRow.holds Tryd.pinned (OpenSpec.ofChange fnKeyFieldNamesWrong)

/-- 'laws.FnKeySetIndex': WHATEVER THE INPUT: true; the input reads as it did. -/
def fnKeySetIndexSpec : ChangeSpec := { name := "fnKeySetIndex", fn := fun _ => fun
  | [d1, d2, d3] => { results := [.lit (.bool true)], args := [d1, d2, d3] }
  | _ => none }
def fnKeySetIndexRow : OpenClaim := { program := "ytlbnemnadegapaadoor", sum := "d26d25d85ff8fc90c391c3528bb2f34ce99cb148eb82499dd6d638b9628312cb", func := "pub-bullarium/laws.FnKeySetIndex", spec := "fnKeySetIndex", unfollowed := true, recurses := true, named := ["pub-bullarium/pub/jwx/jwa.errInvalidKeyAlgorithm"], apart := false, laid := [("pub-bullarium/pub/jwx/jwa.errInvalidKeyAlgorithm", laid_pub_bullarium_pub_jwx_jwa_errInvalidKeyAlgorithm)] }
def FnKeySetIndexSaid : Prop := fnKeySetIndexRow.holds Tryd.pinned (OpenSpec.ofChange fnKeySetIndexSpec)

/-- ITS FALSE NEIGHBOUR: 'it returns false'. Refute it at one input. -/
def fnKeySetIndexWrong : ChangeSpec := { name := "fnKeySetIndex", fn := fun _ => fun
  | [d1, d2, d3] => { results := [.lit (.bool false)], args := [d1, d2, d3] }
  | _ => none }
def FnKeySetIndexWrongFalsely : Prop := fnKeySetIndexRow.holds Tryd.pinned (OpenSpec.ofChange fnKeySetIndexWrong)

/-- 'laws.FnKeySetApart': WHATEVER THE INPUT: true; the input reads as it did. -/
def fnKeySetApartSpec : ChangeSpec := { name := "fnKeySetApart", fn := fun _ => fun
  | [d1, d2] => { results := [.lit (.bool true)], args := [d1, d2] }
  | _ => none }
def fnKeySetApartRow : OpenClaim := { program := "ytlbnemnadegapaadoor", sum := "d26d25d85ff8fc90c391c3528bb2f34ce99cb148eb82499dd6d638b9628312cb", func := "pub-bullarium/laws.FnKeySetApart", spec := "fnKeySetApart", unfollowed := true, recurses := true, named := ["pub-bullarium/pub/jwx/jwa.errInvalidKeyAlgorithm"], apart := false, laid := [("pub-bullarium/pub/jwx/jwa.errInvalidKeyAlgorithm", laid_pub_bullarium_pub_jwx_jwa_errInvalidKeyAlgorithm)] }
def FnKeySetApartSaid : Prop := fnKeySetApartRow.holds Tryd.pinned (OpenSpec.ofChange fnKeySetApartSpec)

/-- ITS FALSE NEIGHBOUR: 'it returns false'. Refute it at one input. -/
def fnKeySetApartWrong : ChangeSpec := { name := "fnKeySetApart", fn := fun _ => fun
  | [d1, d2] => { results := [.lit (.bool false)], args := [d1, d2] }
  | _ => none }
def FnKeySetApartWrongFalsely : Prop := fnKeySetApartRow.holds Tryd.pinned (OpenSpec.ofChange fnKeySetApartWrong)

/- THE SECOND FORM. 'bulk': how many values and letters a reading holds, each counted each time it is reached (what is shared counts as often as it is met; a slice's spare places count too). A statement '..UptoSaid' is the law's where the arguments, and the package variables that the reading takes, are together of bulk at most 1048576: NARROWER than '..Said'. Prove '..Said' where nothing that the law and all that it calls make is longer than what came in: it says more and counts as full. Else prove '..UptoSaid'. A law counts once. -/
mutual
def uptoBulk {H : Type} : DataW H → Nat
  | .lit (.string bytes) => bytes.length + 1
  | .lit _ => 1
  | .nil => 1
  | .ptr d => uptoBulk d + 1
  | .slice elems spare => uptoBulkAll elems + uptoBulkAll spare + 1
  | .agg parts => uptoBulkAll parts + 1
  | .iface _ d => uptoBulk d + 1
  | .map entries => uptoBulkEntries entries + 1
  | .held _ => 1
def uptoBulkAll {H : Type} : List (DataW H) → Nat
  | [] => 0
  | d :: r => uptoBulk d + uptoBulkAll r
def uptoBulkEntries {H : Type} : List (Lit × DataW H) → Nat
  | [] => 0
  | x :: r => uptoBulkEntry x + uptoBulkEntries r
def uptoBulkEntry {H : Type} : Lit × DataW H → Nat
  | (.string bytes, d) => bytes.length + uptoBulk d + 1
  | (_, d) => uptoBulk d + 1
 end
def uptoSmall : (H : Type) → List (DataW H) → Bool := fun _ ds => decide (uptoBulkAll ds ≤ 1048576)
def OpenSpec.upto (s : _root_.Go.ChangeSpec) : _root_.Go.OpenSpec := { _root_.Go.OpenSpec.ofChange s with cond := some uptoSmall }

/-- 'laws.FnKeyFields', WHERE WHAT IT READS IS OF BULK AT MOST 1048576: true; the input reads as it did. -/
def fnKeyFieldsUptoRow : OpenClaim := { program := "ytlbnemnadegapaadoor", sum := "d26d25d85ff8fc90c391c3528bb2f34ce99cb148eb82499dd6d638b9628312cb", func := "pub-bullarium/laws.FnKeyFields", spec := "fnKeyFields", unfollowed := true, recurses := true, named := ["pub-bullarium/pub/jwx/jwa.errInvalidKeyAlgorithm"], apart := false, laid := [("pub-bullarium/pub/jwx/jwa.errInvalidKeyAlgorithm", laid_pub_bullarium_pub_jwx_jwa_errInvalidKeyAlgorithm)], narrowed := true }
def FnKeyFieldsUptoSaid : Prop := fnKeyFieldsUptoRow.holds Tryd.pinned (OpenSpec.upto fnKeyFieldsSpec)

/-- 'laws.FnKeyFieldNames', WHERE WHAT IT READS IS OF BULK AT MOST 1048576: true; the input reads as it did. -/
def fnKeyFieldNamesUptoRow : OpenClaim := { program := "ytlbnemnadegapaadoor", sum := "d26d25d85ff8fc90c391c3528bb2f34ce99cb148eb82499dd6d638b9628312cb", func := "pub-bullarium/laws.FnKeyFieldNames", spec := "fnKeyFieldNames", unfollowed := true, recurses := true, named := ["pub-bullarium/pub/jwx/jwa.errInvalidKeyAlgorithm"], apart := false, laid := [("pub-bullarium/pub/jwx/jwa.errInvalidKeyAlgorithm", laid_pub_bullarium_pub_jwx_jwa_errInvalidKeyAlgorithm)], narrowed := true }
def FnKeyFieldNamesUptoSaid : Prop := fnKeyFieldNamesUptoRow.holds Tryd.pinned (OpenSpec.upto fnKeyFieldNamesSpec)

/-- 'laws.FnKeySetIndex', WHERE WHAT IT READS IS OF BULK AT MOST 1048576: true; the input reads as it did. -/
def fnKeySetIndexUptoRow : OpenClaim := { program := "ytlbnemnadegapaadoor", sum := "d26d25d85ff8fc90c391c3528bb2f34ce99cb148eb82499dd6d638b9628312cb", func := "pub-bullarium/laws.FnKeySetIndex", spec := "fnKeySetIndex", unfollowed := true, recurses := true, named := ["pub-bullarium/pub/jwx/jwa.errInvalidKeyAlgorithm"], apart := false, laid := [("pub-bullarium/pub/jwx/jwa.errInvalidKeyAlgorithm", laid_pub_bullarium_pub_jwx_jwa_errInvalidKeyAlgorithm)], narrowed := true }
def FnKeySetIndexUptoSaid : Prop := fnKeySetIndexUptoRow.holds Tryd.pinned (OpenSpec.upto fnKeySetIndexSpec)

/-- 'laws.FnKeySetApart', WHERE WHAT IT READS IS OF BULK AT MOST 1048576: true; the input reads as it did. -/
def fnKeySetApartUptoRow : OpenClaim := { program := "ytlbnemnadegapaadoor", sum := "d26d25d85ff8fc90c391c3528bb2f34ce99cb148eb82499dd6d638b9628312cb", func := "pub-bullarium/laws.FnKeySetApart", spec := "fnKeySetApart", unfollowed := true, recurses := true, named := ["pub-bullarium/pub/jwx/jwa.errInvalidKeyAlgorithm"], apart := false, laid := [("pub-bullarium/pub/jwx/jwa.errInvalidKeyAlgorithm", laid_pub_bullarium_pub_jwx_jwa_errInvalidKeyAlgorithm)], narrowed := true }
def FnKeySetApartUptoSaid : Prop := fnKeySetApartUptoRow.holds Tryd.pinned (OpenSpec.upto fnKeySetApartSpec)

end Rows
end Go.Proofs.YtlbnemnadegapaaDoor
