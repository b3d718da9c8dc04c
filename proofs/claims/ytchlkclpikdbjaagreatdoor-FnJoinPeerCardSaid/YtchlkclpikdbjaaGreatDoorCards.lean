/-
  DERIVED. GIVEN WITH THE SEED: THE CARDS: each row of YtchlkclpikdbjaaGreatDoorRows.lean that lists a variable, with what it lists TIED to the program's text (the seventh form; the later family's looks); each row that meets fmt, with fmt's text TOLD by the authors' own Lean function (tested against real Go, not proved from fmt's source: count such statements apart). THE CARD IS WHAT COUNTS. Prove the row's statement (the work); the ties are given (YtchlkclpikdbjaaGreatDoorTie.lean); close each card by the builder's one call (the guide's Derived/Test/ToyasCard.lean, 'card_holds'). Laid BY PROGRAM, IN A SANDBOX (cutbox-door.mjs). By AI agents, Wed Nov 11 2026. No macro, syntax, notation, axiom, sorry.
-/
import Derived.Test.YtchlkclpikdbjaaGreatDoorRows
import GoSem.ClaimSeven
namespace Go.Proofs.YtchlkclpikdbjaaGreatDoor
namespace Rows

/-- THE TIED CARD OF 'laws.FnJoinPeer'. -/
def fnJoinPeerCard : Claim7 := { stood := { row := fnJoinPeerRow, standIns := [], harness := (true, "31c0a8b9b3dc9a5709afc554bf4fb9656b94995974c5bfa517f5f1f89211e96a"), looks := true }, kinds := [], alts := [], laidByText := true, laidKinds := [.data, .data], laidTests := true, laidLooks := .later }
def FnJoinPeerCardSaid : Prop := Claim7.holds Tryz.pinned (.plain (OpenSpec.ofChange fnJoinPeerSpec)) fnJoinPeerCard

/-- THE SECOND FORM's CARD OF 'laws.FnJoinPeer'. -/
def fnJoinPeerUptoCard : Claim7 := { stood := { row := fnJoinPeerUptoRow, standIns := [], harness := (true, "31c0a8b9b3dc9a5709afc554bf4fb9656b94995974c5bfa517f5f1f89211e96a"), looks := true }, kinds := [], alts := [], laidByText := true, laidKinds := [.data, .data], laidTests := true, laidLooks := .later }
def FnJoinPeerUptoCardSaid : Prop := Claim7.holds Tryz.pinned (.plain (OpenSpec.upto fnJoinPeerSpec)) fnJoinPeerUptoCard
end Rows
end Go.Proofs.YtchlkclpikdbjaaGreatDoor
