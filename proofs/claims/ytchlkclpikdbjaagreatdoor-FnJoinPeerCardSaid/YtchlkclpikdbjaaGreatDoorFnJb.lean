/-
  FnJoinPeer: closed facts of the row, each by itself.
-/
import Derived.Test.YtchlkclpikdbjaaGreatDoorRows
import Derived.JoinedOf
import Derived.KernelRfl
namespace Go.Proofs.YtchlkclpikdbjaaGreatDoor
set_option linter.unusedVariables false
set_option linter.unusedSimpArgs false
open Go
set_option maxRecDepth 100000
theorem limb9 : ((Rows.fnJoinPeerRow.inPlace == Tryz.prog.inPlace 3)) = true := by kernel_rfl
end Go.Proofs.YtchlkclpikdbjaaGreatDoor
