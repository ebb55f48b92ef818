/-
  DERIVED. GIVEN WITH THE SEED: THE CARDS: each row of YtcogfofgmbndjaaGreatDoorRows.lean that lists a variable, with what it lists TIED to the program's text (the seventh form; the later family's looks); each row that meets fmt, with fmt's text TOLD by the authors' own Lean function (tested against real Go, not proved from fmt's source: count such statements apart). THE CARD IS WHAT COUNTS. Prove the row's statement (the work); the ties are given (YtcogfofgmbndjaaGreatDoorTie.lean); close each card by the builder's one call (the guide's Derived/Test/ToyasCard.lean, 'card_holds'). Laid BY PROGRAM, IN A SANDBOX (cutbox-door.mjs). By AI agents, Wed Nov 11 2026. No macro, syntax, notation, axiom, sorry.
-/
import Derived.Test.YtcogfofgmbndjaaGreatDoorRows
import GoSem.ClaimSeven
namespace Go.Proofs.YtcogfofgmbndjaaGreatDoor
namespace Rows

/-- THE TIED CARD OF 'laws.FnTimes'. -/
def fnTimesCard : Claim7 := { stood := { row := fnTimesRow, standIns := [], harness := (true, "95e3ab516536e6697df2bd024e90148c605985587e18a1bc33ef0b1c359c31e1"), looks := false }, kinds := [], alts := [], laidByText := true, laidKinds := [.widerDeep], laidTests := true, laidLooks := .later }
def FnTimesCardSaid : Prop := Claim7.holds Tryz.pinned (.plain (OpenSpec.ofChange fnTimesSpec)) fnTimesCard

/-- THE SECOND FORM's CARD OF 'laws.FnTimes'. -/
def fnTimesUptoCard : Claim7 := { stood := { row := fnTimesUptoRow, standIns := [], harness := (true, "95e3ab516536e6697df2bd024e90148c605985587e18a1bc33ef0b1c359c31e1"), looks := false }, kinds := [], alts := [], laidByText := true, laidKinds := [.widerDeep], laidTests := true, laidLooks := .later }
def FnTimesUptoCardSaid : Prop := Claim7.holds Tryz.pinned (.plain (OpenSpec.upto fnTimesSpec)) fnTimesUptoCard
end Rows
end Go.Proofs.YtcogfofgmbndjaaGreatDoor
