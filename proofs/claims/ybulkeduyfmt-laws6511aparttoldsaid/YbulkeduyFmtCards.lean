/-
  DERIVED. GIVEN WITH THE SEED: THE CARDS: each row of YbulkeduyFmtRows.lean that lists a variable, with what it lists TIED to the program's text (the seventh form; the later family's looks); each row that meets fmt, with fmt's text TOLD by the authors' own Lean function (tested against real Go, not proved from fmt's source: count such statements apart). THE CARD IS WHAT COUNTS. Prove the row's statement (the work); the ties are given (YbulkeduyFmtTie.lean); close each card by the builder's one call (the guide's Derived/Test/ToyasCard.lean, 'card_holds'). Laid BY PROGRAM, IN A SANDBOX (cutbox-door.mjs). By AI agents, Wed Nov 11 2026. No macro, syntax, notation, axiom, sorry.
-/
import Derived.Test.YbulkeduyFmtRows
import GoSem.ClaimSeven
namespace Go.Proofs.YbulkeduyFmt
namespace Rows

/-- THE TOLD CARD OF 'gracekeeper.LawS6511APart'. -/
def lawS6511APartCard : Claim7 := { stood := { row := lawS6511APartRow, standIns := [], harness := (true, "8f6cbd5c95dd6c5bad032238eca645176927c6c531a97e21f75322224a32136c"), looks := false }, told := true, goes := false }
def LawS6511APartToldSaid : Prop := Claim7.holds Ybaf.pinned (.plain (OpenSpec.ofChange lawS6511APartSpec)) lawS6511APartCard
/-- ITS FALSE NEIGHBOUR. Refute it at one input. -/
def LawS6511APartToldWrongFalsely : Prop := Claim7.holds Ybaf.pinned (.plain (OpenSpec.ofChange lawS6511APartWrong)) lawS6511APartCard
end Rows
end Go.Proofs.YbulkeduyFmt
