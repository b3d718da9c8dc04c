/-
  FnJoinPeer: closed facts of the witness of the row, the heap that the start-up run leaves.
-/
import Derived.Test.YtchlkclpikdbjaaGreatDoorFn
import Derived.Lay
namespace Go.Proofs.YtchlkclpikdbjaaGreatDoor
set_option linter.unusedVariables false
set_option linter.unusedSimpArgs false
open Go
set_option maxRecDepth 100000
theorem wit_ref (os : Os) : ((World.doorLaid Tryz.prog 400 os).forCall (fun _ _ => 0) ⟨#[], #[.slice none 0 0, .int .u8 0, .int .u64 0], []⟩).variablesZipB Tryz.prog = true := by kernel_rfl
end Go.Proofs.YtchlkclpikdbjaaGreatDoor
