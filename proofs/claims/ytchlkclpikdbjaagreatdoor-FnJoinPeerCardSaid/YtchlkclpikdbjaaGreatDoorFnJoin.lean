/-
  FnJoinPeer: the closed facts of the row, joined.
-/
import Derived.Test.YtchlkclpikdbjaaGreatDoorFnJa
import Derived.Test.YtchlkclpikdbjaaGreatDoorFnJb
import Derived.Test.YtchlkclpikdbjaaGreatDoorFnJc
import Derived.Test.YtchlkclpikdbjaaGreatDoorFnJd
import Derived.Test.YtchlkclpikdbjaaGreatDoorFnJe
namespace Go.Proofs.YtchlkclpikdbjaaGreatDoor
set_option linter.unusedVariables false
set_option linter.unusedSimpArgs false
open Go
set_option maxRecDepth 100000
theorem and_mk {a b : Bool} (ha : a = true) (hb : b = true) : (a && b) = true := by rw [ha, hb]; rfl
theorem joined : joinedFacts Tryz.prog 3 Tryz.f3 Rows.fnJoinPeerSpec Rows.fnJoinPeerRow = true := (and_mk (and_mk (and_mk (and_mk (and_mk (and_mk (and_mk (and_mk (and_mk (and_mk (and_mk (and_mk (and_mk (and_mk (and_mk (and_mk (and_mk (and_mk (and_mk (and_mk (and_mk (and_mk (and_mk (and_mk (and_mk (and_mk (and_mk (and_mk (and_mk (and_mk (and_mk limb0 limb1) limb2) limb3) limb4) limb5) limb6) limb7) limb8) limb9) limb10) limb11) limb12) limb13) limb14) limb15) limb16) limb17) limb18) limb19) limb20) limb21) limb22) limb23) limb24) limb25) limb26) limb27) limb28) limb29) limb30) limb31)
end Go.Proofs.YtchlkclpikdbjaaGreatDoor
