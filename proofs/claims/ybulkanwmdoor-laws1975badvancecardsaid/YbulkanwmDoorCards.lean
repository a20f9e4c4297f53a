/-
  DERIVED. GIVEN WITH THE SEED: THE CARDS: each row of YbulkanwmDoorRows.lean that lists a variable, with what it lists TIED to the program's text (the seventh form; the later family's looks); each row that meets fmt, with fmt's text TOLD by the authors' own Lean function (tested against real Go, not proved from fmt's source: count such statements apart). THE CARD IS WHAT COUNTS. Prove the row's statement (the work); the ties are given (YbulkanwmDoorTie.lean); close each card by the builder's one call (the guide's Derived/Test/ToyasCard.lean, 'card_holds'). Laid BY PROGRAM, IN A SANDBOX (cutbox-door.mjs). By AI agents, Wed Nov 11 2026. No macro, syntax, notation, axiom, sorry.
-/
import Derived.Test.YbulkanwmDoorRows
import GoSem.ClaimSeven
namespace Go.Proofs.YbulkanwmDoor
namespace Rows

/-- THE TIED CARD OF 'bssmap.LawS1975BModel'. -/
def lawS1975BModelCard : Claim7 := { stood := { row := lawS1975BModelRow, standIns := [], harness := (true, "68cd1fa776c28db6b4f31abdee0345b5f8ad2b2d0ba42531b45136b765d873f5"), looks := false }, kinds := [], alts := [], laidByText := true, laidKinds := [.data], laidTests := true, laidLooks := .later }
def LawS1975BModelCardSaid : Prop := Claim7.holds Ybad.pinned (.plain (OpenSpec.ofChange lawS1975BModelSpec)) lawS1975BModelCard

/-- THE TIED CARD OF 'bssmap.LawS1975BAdvance'. -/
def lawS1975BAdvanceCard : Claim7 := { stood := { row := lawS1975BAdvanceRow, standIns := [], harness := (true, "68cd1fa776c28db6b4f31abdee0345b5f8ad2b2d0ba42531b45136b765d873f5"), looks := false }, kinds := [], alts := [], laidByText := true, laidKinds := [.data], laidTests := true, laidLooks := .later }
def LawS1975BAdvanceCardSaid : Prop := Claim7.holds Ybad.pinned (.plain (OpenSpec.ofChange lawS1975BAdvanceSpec)) lawS1975BAdvanceCard
end Rows
end Go.Proofs.YbulkanwmDoor
