/-
  FnJoinPeer answers true at every input, and its arguments read as before: the tied card. It speaks of the pruned copy of the project, with the two listed tables as the program's text lays them; the other variables that its row names may hold any values.
-/
import Derived.Test.YtchlkclpikdbjaaGreatDoorFnRow
import Derived.Test.YtchlkclpikdbjaaGreatDoorFnCa
import Derived.Test.YtchlkclpikdbjaaGreatDoorFnTie
namespace Go.Proofs.YtchlkclpikdbjaaGreatDoor
set_option linter.unusedVariables false
set_option linter.unusedSimpArgs false
open Go

theorem fnJoinPeerCard_holds : Rows.FnJoinPeerCardSaid :=
  Claim7.holds_tied_plain_at .later [] [.data, .data] true (true, "31c0a8b9b3dc9a5709afc554bf4fb9656b94995974c5bfa517f5f1f89211e96a") true
    fnJoinPeer_holds (fun _ h => by cases h) card_wf (fun _ h => by cases h) row_tied rfl ⟨rfl, rfl⟩ card_main rfl
    (fun f fn hf hfn => by
      obtain rfl : f = 3 := Option.some.inj (card_named.symm.trans hf) |>.symm
      obtain rfl : fn = Tryz.f3 := (Option.some.inj (Tryz.func3.symm.trans hfn)).symm
      exact ⟨card_looks, fun j t ht => by
        rw [Tryz.params3] at ht
        have hm : t ∈ [22, 5, 23] := by simpa using Array.mem_of_getElem? ht
        exact (show Tryz.prog.wantsStandIn t = false by simpa using List.all_eq_true.1 card_stand t hm)⟩)
    card_goes
#print axioms fnJoinPeerCard_holds
end Go.Proofs.YtchlkclpikdbjaaGreatDoor
