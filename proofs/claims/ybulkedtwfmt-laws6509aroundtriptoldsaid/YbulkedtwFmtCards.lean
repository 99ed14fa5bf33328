/-
  DERIVED. GIVEN WITH THE SEED: THE CARDS: each row of YbulkedtwFmtRows.lean that lists a variable, with what it lists TIED to the program's text (the seventh form; the later family's looks); each row that meets fmt, with fmt's text TOLD by the authors' own Lean function (tested against real Go, not proved from fmt's source: count such statements apart). THE CARD IS WHAT COUNTS. Prove the row's statement (the work); the ties are given (YbulkedtwFmtTie.lean); close each card by the builder's one call (the guide's Derived/Test/ToyasCard.lean, 'card_holds'). Laid BY PROGRAM, IN A SANDBOX (cutbox-door.mjs). By AI agents, Wed Nov 11 2026. No macro, syntax, notation, axiom, sorry.
-/
import Derived.Test.YbulkedtwFmtRows
import GoSem.ClaimSeven
namespace Go.Proofs.YbulkedtwFmt
namespace Rows

/-- THE TOLD AND TIED CARD OF 'quorumline.LawS6509APart'. -/
def lawS6509APartCard : Claim7 := { stood := { row := lawS6509APartRow, standIns := [], harness := (true, "21066fd3a67754504e36e84a5264d4cc08c38f3fa8a4932649e35dc70116783f"), looks := false }, told := true, laidByText := true, laidKinds := [.called], laidTests := true, laidLooks := .later, goes := false }
def LawS6509APartToldSaid : Prop := Claim7.holds Ybaf.pinned (.plain (OpenSpec.ofChange lawS6509APartSpec)) lawS6509APartCard
/-- ITS FALSE NEIGHBOUR. Refute it at one input. -/
def LawS6509APartToldWrongFalsely : Prop := Claim7.holds Ybaf.pinned (.plain (OpenSpec.ofChange lawS6509APartWrong)) lawS6509APartCard

/-- THE TOLD AND TIED CARD OF 'quorumline.LawS6509ARoundTrip'. -/
def lawS6509ARoundTripCard : Claim7 := { stood := { row := lawS6509ARoundTripRow, standIns := [], harness := (true, "21066fd3a67754504e36e84a5264d4cc08c38f3fa8a4932649e35dc70116783f"), looks := false }, told := true, laidByText := true, laidKinds := [.called], laidTests := true, laidLooks := .later, goes := false }
def LawS6509ARoundTripToldSaid : Prop := Claim7.holds Ybaf.pinned (.plain (OpenSpec.ofChange lawS6509ARoundTripSpec)) lawS6509ARoundTripCard
/-- ITS FALSE NEIGHBOUR. Refute it at one input. -/
def LawS6509ARoundTripToldWrongFalsely : Prop := Claim7.holds Ybaf.pinned (.plain (OpenSpec.ofChange lawS6509ARoundTripWrong)) lawS6509ARoundTripCard
end Rows
end Go.Proofs.YbulkedtwFmt
