/-
  FnNetZone answers true at every input, and its arguments read as before: the tied card. It speaks of the pruned copy of the project, with the three listed tables as the program's text lays them; the other variables that its row names may hold any values.
-/
import Derived.Test.YtdlmmaolacjnaaaGreatDoorFnRow
import Derived.Test.YtdlmmaolacjnaaaGreatDoorFnCa
import Derived.Test.YtdlmmaolacjnaaaGreatDoorFnTie
namespace Go.Proofs.YtdlmmaolacjnaaaGreatDoor
set_option linter.unusedVariables false
set_option linter.unusedSimpArgs false
open Go

theorem fnNetZoneCard_holds : Rows.FnNetZoneCardSaid :=
  Claim7.holds_tied_plain_at .later [] [.data, .data, .data] true (true, "c5620296197d3f4433ab44e1851b69370a4d7b2b0304b94e77e7b7126b5fa6c3") true
    fnNetZone_holds (fun _ h => by cases h) card_wf (fun _ h => by cases h) row_tied rfl ⟨rfl, rfl⟩ card_main rfl
    (fun f fn hf hfn => by
      obtain rfl : f = 3 := Option.some.inj (card_named.symm.trans hf) |>.symm
      obtain rfl : fn = Tryz.f3 := (Option.some.inj (Tryz.func3.symm.trans hfn)).symm
      exact ⟨card_looks, fun j t ht => by
        rw [Tryz.params3] at ht
        have hm : t ∈ [22, 9] := by simpa using Array.mem_of_getElem? ht
        exact (show Tryz.prog.wantsStandIn t = false by simpa using List.all_eq_true.1 card_stand t hm)⟩)
    card_goes
#print axioms fnNetZoneCard_holds
end Go.Proofs.YtdlmmaolacjnaaaGreatDoor
