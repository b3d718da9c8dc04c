/-
  FnJoinPeer: closed facts of the card, each by itself.
-/
import Derived.Test.YtchlkclpikdbjaaGreatDoorCards
import Derived.SevenTiedAt
import Derived.KernelRfl
namespace Go.Proofs.YtchlkclpikdbjaaGreatDoor
set_option linter.unusedVariables false
set_option linter.unusedSimpArgs false
open Go
set_option maxRecDepth 100000
theorem card_wf : Rows.fnJoinPeerRow.wfByText (OpenSpec.ofChange Rows.fnJoinPeerSpec) = true := by kernel_rfl
theorem card_main : Tryz.prog.mainIs = some (true, "31c0a8b9b3dc9a5709afc554bf4fb9656b94995974c5bfa517f5f1f89211e96a".toList) := by kernel_rfl
theorem card_looks : true = Tryz.prog.looks [] := by kernel_rfl
theorem card_stand : ([22, 5, 23].all fun u => !Tryz.prog.wantsStandIn u) = true := by kernel_rfl
theorem card_named : Tryz.prog.funcNamed "pub-brocade/laws.FnJoinPeer" = some 3 := by kernel_rfl
end Go.Proofs.YtchlkclpikdbjaaGreatDoor
namespace Go.Proofs.YtchlkclpikdbjaaGreatDoor
set_option linter.unusedVariables false
set_option linter.unusedSimpArgs false
open Go
set_option maxRecDepth 100000
theorem none_goes : (Tryz.prog.funcs.toList.any Func.goes) = false := by kernel_rfl
theorem goes_none {P : Program} (h : (P.funcs.toList.any Func.goes) = false) (f : FuncId) : P.goes f = false := by
  have h1 : ∀ fn ∈ P.funcs.toList, Func.goes fn = false := by
    intro fn hf
    have := List.any_eq_false.1 h fn hf
    simpa using this
  have h2 : P.funcs.any Func.goes = false := by
    rw [← Array.any_toList]
    exact h
  unfold Program.goes
  rw [h2, Bool.and_false, Bool.or_false, List.any_eq_false]
  intro g hg
  cases hfn : P.funcs[g]? with
  | none => simp
  | some fn =>
    have hm : fn ∈ P.funcs.toList := by
      have := Array.mem_of_getElem? hfn
      simpa using this
    simp [h1 fn hm]
theorem card_goes : false = Rows.fnJoinPeerRow.goesBy Tryz.prog := by
  have h : ∀ n, Tryz.prog.goesFrom n = false := by
    intro n
    unfold Program.goesFrom
    cases Tryz.prog.funcNamed n with
    | none => rfl
    | some f => simp [goes_none none_goes f]
  unfold OpenClaim.goesBy Program.goesAt
  rw [h]
  rfl
end Go.Proofs.YtchlkclpikdbjaaGreatDoor
