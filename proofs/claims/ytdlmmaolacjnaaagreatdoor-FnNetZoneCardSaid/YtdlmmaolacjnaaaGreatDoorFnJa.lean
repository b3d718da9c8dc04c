/-
  FnNetZone: closed facts of the row, each by itself.
-/
import Derived.Test.YtdlmmaolacjnaaaGreatDoorRows
import Derived.JoinedOf
import Derived.KernelRfl
namespace Go.Proofs.YtdlmmaolacjnaaaGreatDoor
set_option linter.unusedVariables false
set_option linter.unusedSimpArgs false
open Go
set_option maxRecDepth 100000
theorem limb0 : (Rows.fnNetZoneRow.wf (OpenSpec.ofChange Rows.fnNetZoneSpec)) = true := by kernel_rfl
theorem limb1 : (laidOutB Tryz.prog) = true := by kernel_rfl
theorem limb2 : (mapsRowed Tryz.prog) = true := by kernel_rfl
theorem limb3 : (Tryz.f3.params.all (Tryz.prog.readableRec ·)) = true := by kernel_rfl
theorem limb4 : (namedTie Tryz.prog Rows.fnNetZoneRow.named Rows.fnNetZoneSpec.vars) = true := by kernel_rfl
theorem limb5 : ((Rows.fnNetZoneRow.stops == [])) = true := by kernel_rfl
theorem limb6 : ((Tryz.prog.stops == [])) = true := by kernel_rfl
theorem limb7 : ((Rows.fnNetZoneRow.knobs == [])) = true := by kernel_rfl
theorem limb8 : ((Tryz.prog.stopKnobs == [])) = true := by kernel_rfl
theorem limb13 : ((Rows.fnNetZoneRow.maps == (Tryz.f3.params.toList ++ Rows.fnNetZoneSpec.plain.varTypes Tryz.prog).any (Tryz.prog.mapsRec ·))) = true := by kernel_rfl
theorem limb14 : ((Rows.fnNetZoneRow.ifaces == (Tryz.f3.params.toList ++ Rows.fnNetZoneSpec.plain.varTypes Tryz.prog).any (Tryz.prog.ifacesRec ·))) = true := by kernel_rfl
theorem limb15 : ((Rows.fnNetZoneRow.mapsOut == Tryz.prog.mapsAmong Tryz.f3.resultTypes.toList)) = true := by kernel_rfl
theorem limb16 : ((Rows.fnNetZoneRow.loops == (Tryz.f3.params.toList ++ Rows.fnNetZoneSpec.plain.varTypes Tryz.prog).any (Tryz.prog.loopsFrom ·))) = true := by kernel_rfl
theorem limb17 : ((Rows.fnNetZoneRow.wideKeys == (Tryz.f3.params.toList ++ Rows.fnNetZoneSpec.plain.varTypes Tryz.prog ++ Tryz.f3.resultTypes.toList).any (Tryz.prog.wideKeysFrom ·))) = true := by kernel_rfl
theorem limb18 : (Rows.fnNetZoneSpec.vars.all (Tryz.prog.varReadable ·)) = true := by kernel_rfl
theorem limb19 : (Tryz.f3.resultTypes.all (fun t => Tryz.prog.readableRec t && decide (t < Tryz.prog.types.size))) = true := by kernel_rfl
theorem limb20 : ((Rows.fnNetZoneRow.ifacesOut == Tryz.f3.resultTypes.toList.any (Tryz.prog.ifacesRec ·))) = true := by kernel_rfl
theorem limb21 : ((Rows.fnNetZoneRow.loopsOut == Tryz.f3.resultTypes.toList.any (Tryz.prog.loopsFrom ·))) = true := by kernel_rfl
theorem limb22 : ((Rows.fnNetZoneRow.plainKeys == Tryz.prog.plainKeys)) = true := by kernel_rfl
theorem limb23 : (Rows.fnNetZoneRow.shortTexts.isNone) = true := by kernel_rfl
theorem limb24 : (Tryz.prog.stopsHeard) = true := by kernel_rfl
theorem limb25 : (Tryz.prog.mayEnter) = true := by kernel_rfl
theorem limb26 : ((Rows.fnNetZoneRow.lifted == Tryz.prog.liftsFinal)) = true := by kernel_rfl
theorem limb27 : ((Tryz.prog.make == some Rows.fnNetZoneRow.make)) = true := by kernel_rfl
theorem limb28 : ((Rows.fnNetZoneRow.kinds == (if Rows.fnNetZoneRow.domain.isEmpty then [] else Tryz.f3.params.toList.map fun t => match Tryz.prog.underlying t with | some (.int k) => some k | _ => none))) = true := by kernel_rfl
theorem limb29 : ((Rows.fnNetZoneRow.pinned == Rows.fnNetZoneRow.pinnedBy)) = true := by kernel_rfl
theorem limb30 : ((Rows.fnNetZoneRow.veiled == (Tryz.f3.params.toList ++ Rows.fnNetZoneSpec.plain.varTypes Tryz.prog ++ Tryz.f3.resultTypes.toList).any (Tryz.prog.veiledRec ·))) = true := by kernel_rfl
theorem limb31 : (Rows.fnNetZoneRow.veiledFits Tryz.prog Tryz.f3.params.toList (Tryz.f3.params.toList ++ Rows.fnNetZoneSpec.plain.varTypes Tryz.prog ++ Tryz.f3.resultTypes.toList)) = true := by kernel_rfl
end Go.Proofs.YtdlmmaolacjnaaaGreatDoor
