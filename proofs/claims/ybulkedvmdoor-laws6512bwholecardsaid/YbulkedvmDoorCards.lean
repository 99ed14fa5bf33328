/-
  DERIVED. GIVEN WITH THE SEED: THE CARDS: each row of YbulkedvmDoorRows.lean that lists a variable, with what it lists TIED to the program's text (the seventh form; the later family's looks); each row that meets fmt, with fmt's text TOLD by the authors' own Lean function (tested against real Go, not proved from fmt's source: count such statements apart). THE CARD IS WHAT COUNTS. Prove the row's statement (the work); the ties are given (YbulkedvmDoorTie.lean); close each card by the builder's one call (the guide's Derived/Test/ToyasCard.lean, 'card_holds'). Laid BY PROGRAM, IN A SANDBOX (cutbox-door.mjs). By AI agents, Wed Nov 11 2026. No macro, syntax, notation, axiom, sorry.
-/
import Derived.Test.YbulkedvmDoorRows
import GoSem.ClaimSeven
namespace Go.Proofs.YbulkedvmDoor
namespace Rows

/-- THE TIED CARD OF 'changelist.LawS6512BWhole'. -/
def lawS6512BWholeCard : Claim7 := { stood := { row := lawS6512BWholeRow, standIns := [], harness := (true, "45f565e0b86273cd1818908a2935909499da8b1710533bbaaabcdf85cc9543b2"), looks := false }, kinds := [], alts := [], laidByText := true, laidKinds := [.data, .data, .data], laidTests := true, laidLooks := .later }
def LawS6512BWholeCardSaid : Prop := Claim7.holds Ybad.pinned (.plain (OpenSpec.ofChange lawS6512BWholeSpec)) lawS6512BWholeCard
end Rows
end Go.Proofs.YbulkedvmDoor
