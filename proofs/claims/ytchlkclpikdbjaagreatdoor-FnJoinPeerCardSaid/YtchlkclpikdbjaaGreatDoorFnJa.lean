/-
  FnJoinPeer: closed facts of the row, each by itself.
-/
import Derived.Test.YtchlkclpikdbjaaGreatDoorRows
import Derived.JoinedOf
import Derived.KernelRfl
namespace Go.Proofs.YtchlkclpikdbjaaGreatDoor
set_option linter.unusedVariables false
set_option linter.unusedSimpArgs false
open Go
set_option maxRecDepth 100000
theorem limb0 : (Rows.fnJoinPeerRow.wf (OpenSpec.ofChange Rows.fnJoinPeerSpec)) = true := by kernel_rfl
theorem limb1 : (laidOutB Tryz.prog) = true := by kernel_rfl
theorem limb2 : (mapsRowed Tryz.prog) = true := by kernel_rfl
theorem limb3 : (Tryz.f3.params.all (Tryz.prog.readableRec ·)) = true := by kernel_rfl
theorem limb4 : (namedTie Tryz.prog Rows.fnJoinPeerRow.named Rows.fnJoinPeerSpec.vars) = true := by kernel_rfl
theorem limb5 : ((Rows.fnJoinPeerRow.stops == [])) = true := by kernel_rfl
theorem limb6 : ((Tryz.prog.stops == [])) = true := by kernel_rfl
theorem limb7 : ((Rows.fnJoinPeerRow.knobs == [])) = true := by kernel_rfl
theorem limb8 : ((Tryz.prog.stopKnobs == [])) = true := by kernel_rfl
theorem limb13 : ((Rows.fnJoinPeerRow.maps == (Tryz.f3.params.toList ++ Rows.fnJoinPeerSpec.plain.varTypes Tryz.prog).any (Tryz.prog.mapsRec ·))) = true := by kernel_rfl
theorem limb14 : ((Rows.fnJoinPeerRow.ifaces == (Tryz.f3.params.toList ++ Rows.fnJoinPeerSpec.plain.varTypes Tryz.prog).any (Tryz.prog.ifacesRec ·))) = true := by kernel_rfl
theorem limb15 : ((Rows.fnJoinPeerRow.mapsOut == Tryz.prog.mapsAmong Tryz.f3.resultTypes.toList)) = true := by kernel_rfl
theorem limb16 : ((Rows.fnJoinPeerRow.loops == (Tryz.f3.params.toList ++ Rows.fnJoinPeerSpec.plain.varTypes Tryz.prog).any (Tryz.prog.loopsFrom ·))) = true := by kernel_rfl
theorem limb17 : ((Rows.fnJoinPeerRow.wideKeys == (Tryz.f3.params.toList ++ Rows.fnJoinPeerSpec.plain.varTypes Tryz.prog ++ Tryz.f3.resultTypes.toList).any (Tryz.prog.wideKeysFrom ·))) = true := by kernel_rfl
theorem limb18 : (Rows.fnJoinPeerSpec.vars.all (Tryz.prog.varReadable ·)) = true := by kernel_rfl
theorem limb19 : (Tryz.f3.resultTypes.all (fun t => Tryz.prog.readableRec t && decide (t < Tryz.prog.types.size))) = true := by kernel_rfl
theorem limb20 : ((Rows.fnJoinPeerRow.ifacesOut == Tryz.f3.resultTypes.toList.any (Tryz.prog.ifacesRec ·))) = true := by kernel_rfl
theorem limb21 : ((Rows.fnJoinPeerRow.loopsOut == Tryz.f3.resultTypes.toList.any (Tryz.prog.loopsFrom ·))) = true := by kernel_rfl
theorem limb22 : ((Rows.fnJoinPeerRow.plainKeys == Tryz.prog.plainKeys)) = true := by kernel_rfl
theorem limb23 : (Rows.fnJoinPeerRow.shortTexts.isNone) = true := by kernel_rfl
theorem limb24 : (Tryz.prog.stopsHeard) = true := by kernel_rfl
theorem limb25 : (Tryz.prog.mayEnter) = true := by kernel_rfl
theorem limb26 : ((Rows.fnJoinPeerRow.lifted == Tryz.prog.liftsFinal)) = true := by kernel_rfl
theorem limb27 : ((Tryz.prog.make == some Rows.fnJoinPeerRow.make)) = true := by kernel_rfl
theorem limb28 : ((Rows.fnJoinPeerRow.kinds == (if Rows.fnJoinPeerRow.domain.isEmpty then [] else Tryz.f3.params.toList.map fun t => match Tryz.prog.underlying t with | some (.int k) => some k | _ => none))) = true := by kernel_rfl
theorem limb29 : ((Rows.fnJoinPeerRow.pinned == Rows.fnJoinPeerRow.pinnedBy)) = true := by kernel_rfl
theorem limb30 : ((Rows.fnJoinPeerRow.veiled == (Tryz.f3.params.toList ++ Rows.fnJoinPeerSpec.plain.varTypes Tryz.prog ++ Tryz.f3.resultTypes.toList).any (Tryz.prog.veiledRec ·))) = true := by kernel_rfl
theorem limb31 : (Rows.fnJoinPeerRow.veiledFits Tryz.prog Tryz.f3.params.toList (Tryz.f3.params.toList ++ Rows.fnJoinPeerSpec.plain.varTypes Tryz.prog ++ Tryz.f3.resultTypes.toList)) = true := by kernel_rfl
end Go.Proofs.YtchlkclpikdbjaaGreatDoor
