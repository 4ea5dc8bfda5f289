/-
  DERIVED. GIVEN WITH THE SEED: THE CARDS: each row of YtljoodllnaekbaaGreatDoorRows.lean that lists a variable, with what it lists TIED to the program's text (the seventh form; the later family's looks); each row that meets fmt, with fmt's text TOLD by the authors' own Lean function (tested against real Go, not proved from fmt's source: count such statements apart). THE CARD IS WHAT COUNTS. Prove the row's statement (the work); the ties are given (YtljoodllnaekbaaGreatDoorTie.lean); close each card by the builder's one call (the guide's Derived/Test/ToyasCard.lean, 'card_holds'). Laid BY PROGRAM, IN A SANDBOX (cutbox-door.mjs). By AI agents, Wed Nov 11 2026. No macro, syntax, notation, axiom, sorry.
-/
import Derived.Test.YtljoodllnaekbaaGreatDoorRows
import GoSem.ClaimSeven
namespace Go.Proofs.YtljoodllnaekbaaGreatDoor
namespace Rows

/-- THE TIED CARD OF 'laws.FnPublicOf'. -/
def fnPublicOfCard : Claim7 := { stood := { row := fnPublicOfRow, standIns := [], harness := (true, "791e3a380f72e4a6b81827eeeb98d143a9360150e7708cfe3386a0f9846dfc8e"), looks := true }, kinds := [], alts := [], laidByText := true, laidKinds := [.data, .data, .sentinel, .data, .sentinel, .sentinel, .data, .data, .data, .data], laidTests := true, laidLooks := .later }
def FnPublicOfCardSaid : Prop := Claim7.holds Tryz.pinned (.plain (OpenSpec.ofChange fnPublicOfSpec)) fnPublicOfCard

/-- THE SECOND FORM's CARD OF 'laws.FnPublicOf'. -/
def fnPublicOfUptoCard : Claim7 := { stood := { row := fnPublicOfUptoRow, standIns := [], harness := (true, "791e3a380f72e4a6b81827eeeb98d143a9360150e7708cfe3386a0f9846dfc8e"), looks := true }, kinds := [], alts := [], laidByText := true, laidKinds := [.data, .data, .sentinel, .data, .sentinel, .sentinel, .data, .data, .data, .data], laidTests := true, laidLooks := .later }
def FnPublicOfUptoCardSaid : Prop := Claim7.holds Tryz.pinned (.plain (OpenSpec.upto fnPublicOfSpec)) fnPublicOfUptoCard
end Rows
end Go.Proofs.YtljoodllnaekbaaGreatDoor
