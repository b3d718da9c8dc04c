/-
  FnNetZone: closed facts of the card, each by itself.
-/
import Derived.Test.YtdlmmaolacjnaaaGreatDoorCards
import Derived.SevenTiedAt
import Derived.KernelRfl
namespace Go.Proofs.YtdlmmaolacjnaaaGreatDoor
set_option linter.unusedVariables false
set_option linter.unusedSimpArgs false
open Go
set_option maxRecDepth 100000
theorem card_wf : Rows.fnNetZoneRow.wfByText (OpenSpec.ofChange Rows.fnNetZoneSpec) = true := by kernel_rfl
theorem card_main : Tryz.prog.mainIs = some (true, "c5620296197d3f4433ab44e1851b69370a4d7b2b0304b94e77e7b7126b5fa6c3".toList) := by kernel_rfl
theorem card_looks : true = Tryz.prog.looks [] := by kernel_rfl
theorem card_stand : ([22, 9].all fun u => !Tryz.prog.wantsStandIn u) = true := by kernel_rfl
theorem card_named : Tryz.prog.funcNamed "pub-brocade/laws.FnNetZone" = some 3 := by kernel_rfl
end Go.Proofs.YtdlmmaolacjnaaaGreatDoor
namespace Go.Proofs.YtdlmmaolacjnaaaGreatDoor
set_option linter.unusedVariables false
set_option linter.unusedSimpArgs false
open Go
set_option maxRecDepth 100000
theorem none_goes : (Tryz.prog.funcs.toList.any Func.goes) = false := by kernel_rfl
theorem goes_none {P : Program} (h : (P.funcs.toList.any Func.goes) = false) (f : FuncId) : P.goes f = false := by
  have h1 : ∀ fn ∈ P.funcs.toList, Func.goes fn = false := by
    intro fn hf
    have := List.any_eq_false.1 h fn hf
    simpa using this
  have h2 : P.funcs.any Func.goes = false := by
    rw [← Array.any_toList]
    exact h
  unfold Program.goes
  rw [h2, Bool.and_false, Bool.or_false, List.any_eq_false]
  intro g hg
  cases hfn : P.funcs[g]? with
  | none => simp
  | some fn =>
    have hm : fn ∈ P.funcs.toList := by
      have := Array.mem_of_getElem? hfn
      simpa using this
    simp [h1 fn hm]
theorem card_goes : false = Rows.fnNetZoneRow.goesBy Tryz.prog := by
  have h : ∀ n, Tryz.prog.goesFrom n = false := by
    intro n
    unfold Program.goesFrom
    cases Tryz.prog.funcNamed n with
    | none => rfl
    | some f => simp [goes_none none_goes f]
  unfold OpenClaim.goesBy Program.goesAt
  rw [h]
  rfl
end Go.Proofs.YtdlmmaolacjnaaaGreatDoor
