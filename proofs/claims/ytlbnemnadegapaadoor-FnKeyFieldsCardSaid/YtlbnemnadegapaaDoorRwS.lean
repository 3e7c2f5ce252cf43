/- What a row's proof wants in a seat without bytes: two closed facts. -/
import Derived.Test.YtlbnemnadegapaaDoorK
import Derived.Test.YtlbnemnadegapaaDoorProg
import Derived.ProofKit
import Derived.OpenShut
import Derived.ShutString
import Derived.ChangeOld
import Derived.SizedLaws
import Derived.ChangeSlices
namespace Go.Proofs.YtlbnemnadegapaaDoor.Own
theorem here : True := trivial
end Go.Proofs.YtlbnemnadegapaaDoor.Own
namespace Go.Proofs.YtlbnemnadegapaaDoor.Rw
open Go.ChangeShapes Go.WideShapes Go.ChangeAt Go.RowKit
theorem own : ownKnob Tryd.prog.godebug = none := by kernel_rfl
theorem laidOut : laidOutB Tryd.prog = true := by kernel_rfl
end Go.Proofs.YtlbnemnadegapaaDoor.Rw
