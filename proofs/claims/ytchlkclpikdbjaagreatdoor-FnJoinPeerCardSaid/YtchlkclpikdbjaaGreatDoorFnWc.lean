/-
  FnJoinPeer: closed facts of the witness of the row, the heap that the start-up run leaves.
-/
import Derived.Test.YtchlkclpikdbjaaGreatDoorFn
namespace Go.Proofs.YtchlkclpikdbjaaGreatDoor
set_option linter.unusedVariables false
set_option linter.unusedSimpArgs false
open Go
set_option maxRecDepth 100000
theorem wit_ok (os : Os) : Input.okWideB Tryz.prog ((World.doorLaid Tryz.prog 400 os).forCall (fun _ _ => 0) ⟨#[], #[.slice none 0 0, .int .u8 0, .int .u64 0], []⟩) 3 ⟨#[], #[.slice none 0 0, .int .u8 0, .int .u64 0], []⟩ = true := by kernel_rfl
theorem wit_pre {H : Type} (enc : TypeId × Value → H) (os : Os) : Rows.fnJoinPeerSpec.preB enc Tryz.prog Tryz.f3 [] false ((World.doorLaid Tryz.prog 400 os).forCall (fun _ _ => 0) ⟨#[], #[.slice none 0 0, .int .u8 0, .int .u64 0], []⟩).memory #[.slice none 0 0, .int .u8 0, .int .u64 0] 8 = true := by kernel_rfl
theorem wit_sz {H : Type} (enc : TypeId × Value → H) (os : Os) : Rows.fnJoinPeerSpec.sizedB enc Tryz.prog Tryz.f3 false ((World.doorLaid Tryz.prog 400 os).forCall (fun _ _ => 0) ⟨#[], #[.slice none 0 0, .int .u8 0, .int .u64 0], []⟩).memory #[.slice none 0 0, .int .u8 0, .int .u64 0] 8 = true := by kernel_rfl
theorem no_init : Tryz.prog.inits.idxOf? 3 = none := by kernel_rfl
theorem read_b : Tryz.prog.readableRec 22 = true := by kernel_rfl
theorem size_b : 22 < Tryz.prog.types.size := of_decide_eq_true (by kernel_rfl)
theorem cells_u8 : Tryz.prog.cellsOf 5 = 1 := by kernel_rfl
theorem named_f : Tryz.prog.funcNamed "pub-brocade/laws.FnJoinPeer" = some 3 := by kernel_rfl
theorem inst_f : Tryz.f3.isInstance Tryz.prog Rows.fnJoinPeerRow.origin Rows.fnJoinPeerRow.targs := of_decide_eq_true (by kernel_rfl)
end Go.Proofs.YtchlkclpikdbjaaGreatDoor
