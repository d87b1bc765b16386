import Derived.Test.Qxb6604309aRows
import Derived.WalkKit
import Derived.ProofKit
import Derived.ShutString
import Derived.ChangeOld
namespace Go.Proofs.Qxb6604309a
theorem Try.own : ownKnob Try.prog.godebug = none := by kernel_rfl
theorem Try.laidOut : laidOutB Try.prog = true := by kernel_rfl
end Go.Proofs.Qxb6604309a
