/-
  FnJoinPeer: closed facts of the row, each by itself.
-/
import Derived.Test.YtchlkclpikdbjaaGreatDoorRows
import Derived.JoinedOf
import Derived.KernelRfl
namespace Go.Proofs.YtchlkclpikdbjaaGreatDoor
set_option linter.unusedVariables false
set_option linter.unusedSimpArgs false
open Go
set_option maxRecDepth 100000
theorem limb12 : ((Rows.fnJoinPeerRow.named == Tryz.prog.varsNamed 3)) = true := by kernel_rfl
end Go.Proofs.YtchlkclpikdbjaaGreatDoor
