/- What a row's proof wants in a seat without bytes: two closed facts. -/
import Derived.Test.YtlbnemnadegapaaGreatDoorK
import Derived.Test.YtlbnemnadegapaaGreatDoorProg
import Derived.ProofKit
import Derived.OpenShut
import Derived.ShutString
import Derived.ChangeOld
import Derived.SizedLaws
import Derived.ChangeSlices
namespace Go.Proofs.YtlbnemnadegapaaGreatDoor.Own
theorem here : True := trivial
end Go.Proofs.YtlbnemnadegapaaGreatDoor.Own
namespace Go.Proofs.YtlbnemnadegapaaGreatDoor.Rw
open Go.ChangeShapes Go.WideShapes Go.ChangeAt Go.RowKit
theorem own : ownKnob Tryz.prog.godebug = none := by kernel_rfl
theorem laidOut : laidOutB Tryz.prog = true := by kernel_rfl
end Go.Proofs.YtlbnemnadegapaaGreatDoor.Rw
