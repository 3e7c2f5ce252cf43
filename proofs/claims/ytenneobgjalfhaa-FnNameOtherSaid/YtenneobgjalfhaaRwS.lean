/- What a row's proof wants in a seat without bytes: two closed facts. -/
import Derived.Test.YtenneobgjalfhaaK
import Derived.Test.YtenneobgjalfhaaProg
import Derived.ProofKit
import Derived.OpenShut
import Derived.ShutString
import Derived.ChangeOld
import Derived.SizedLaws
import Derived.ChangeSlices
namespace Go.Proofs.Ytenneobgjalfhaa.Own
theorem here : True := trivial
end Go.Proofs.Ytenneobgjalfhaa.Own
namespace Go.Proofs.Ytenneobgjalfhaa.Rw
open Go.ChangeShapes Go.WideShapes Go.ChangeAt Go.RowKit
theorem own : ownKnob Try.prog.godebug = none := by kernel_rfl
theorem laidOut : laidOutB Try.prog = true := by kernel_rfl
end Go.Proofs.Ytenneobgjalfhaa.Rw
