/-
  DERIVED. GIVEN WITH THE SEED: THE CARDS: each row of YtdlmmaolacjnaaaGreatDoorRows.lean that lists a variable, with what it lists TIED to the program's text (the seventh form; the later family's looks); each row that meets fmt, with fmt's text TOLD by the authors' own Lean function (tested against real Go, not proved from fmt's source: count such statements apart). THE CARD IS WHAT COUNTS. Prove the row's statement (the work); the ties are given (YtdlmmaolacjnaaaGreatDoorTie.lean); close each card by the builder's one call (the guide's Derived/Test/ToyasCard.lean, 'card_holds'). Laid BY PROGRAM, IN A SANDBOX (cutbox-door.mjs). By AI agents, Wed Nov 11 2026. No macro, syntax, notation, axiom, sorry.
-/
import Derived.Test.YtdlmmaolacjnaaaGreatDoorRows
import GoSem.ClaimSeven
namespace Go.Proofs.YtdlmmaolacjnaaaGreatDoor
namespace Rows

/-- THE TIED CARD OF 'laws.FnNetZone'. -/
def fnNetZoneCard : Claim7 := { stood := { row := fnNetZoneRow, standIns := [], harness := (true, "c5620296197d3f4433ab44e1851b69370a4d7b2b0304b94e77e7b7126b5fa6c3"), looks := true }, kinds := [], alts := [], laidByText := true, laidKinds := [.data, .data, .data], laidTests := true, laidLooks := .later }
def FnNetZoneCardSaid : Prop := Claim7.holds Tryz.pinned (.plain (OpenSpec.ofChange fnNetZoneSpec)) fnNetZoneCard

/-- THE SECOND FORM's CARD OF 'laws.FnNetZone'. -/
def fnNetZoneUptoCard : Claim7 := { stood := { row := fnNetZoneUptoRow, standIns := [], harness := (true, "c5620296197d3f4433ab44e1851b69370a4d7b2b0304b94e77e7b7126b5fa6c3"), looks := true }, kinds := [], alts := [], laidByText := true, laidKinds := [.data, .data, .data], laidTests := true, laidLooks := .later }
def FnNetZoneUptoCardSaid : Prop := Claim7.holds Tryz.pinned (.plain (OpenSpec.upto fnNetZoneSpec)) fnNetZoneUptoCard
end Rows
end Go.Proofs.YtdlmmaolacjnaaaGreatDoor
