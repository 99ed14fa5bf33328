/-
  No cell of these rows narrows 'for every input' (looked for: loops, veiled, ifaces, maps, wideKeys, modest, calm, conditions, laid).
  DERIVED. THE GIVEN ROWS OF THIS SEAT. 1 by the template 'for every input the law returns true; each argument reads behind the call as it read before'; 0 by the template 'total and deterministic' (their statements: YbulkeduyFmtTotals.lean).
  GIVEN WITH THE SEED: the statements are not yours to turn. If you find one false, say at which input.
  Laid BY PROGRAM, IN A SANDBOX (cutbox-rows.mjs): the forced cells as the released guide's own fill.sh prints them over the translation 0969150b0c82bfae… (all of the seat's roots in one cut). By AI agents, Wed Nov 11 2026. No macro, syntax, notation, axiom, sorry.
-/
import Derived.Test.YbulkeduyFmtChecked
import GoSem.Claim
import GoSem.ClaimJoined
import GoSem.ClaimMapViews
import Derived.JoinedTies
import Derived.KernelRfl
namespace Go.Proofs.YbulkeduyFmt
/- THE CELL 'sum', in the pinned program and in every row, IS THE sha256 OF THE DUMP (.gsa) THAT YbulkeduyFmtProg.lean LOADS. Nothing in Lean hashes anything: it is a label: what it is worth is what the hold of that sum in a sandbox is worth. -/
noncomputable def Ybaf.pinned : Pinned := { name := "ybulkeduyfmt", sum := "0969150b0c82bfae651e5210aa8c858b5af3785b1700c4f9734ed4a8fad790fd", checked := Ybaf.checked }
namespace Rows
def none {H : Type} : Left H := { results := [], args := [] }

/-- 'gracekeeper.LawS6511APart': WHATEVER THE INPUT: true; the input reads as it did. -/
def lawS6511APartSpec : ChangeSpec := { name := "lawS6511APart", fn := fun _ => fun
  | [d] => { results := [.lit (.bool true)], args := [d] }
  | _ => none }
def lawS6511APartRow : OpenClaim := { program := "ybulkeduyfmt", sum := "0969150b0c82bfae651e5210aa8c858b5af3785b1700c4f9734ed4a8fad790fd", func := "example.com/gracekeeper/gracekeeper.LawS6511APart", spec := "lawS6511APart", stops := ["fmt.Sprintf"], inPlace := ["fmt.Sprintf"], apart := false }
/-- NO THEOREM (fmt's text is open here; it may be false): for the released tool's asking of the row's closed facts alone. THE STATEMENT IS 'LawS6511APartToldSaid' (YbulkeduyFmtCards.lean). -/
def LawS6511APartFormAsk : Prop := lawS6511APartRow.holds Ybaf.pinned (OpenSpec.ofChange lawS6511APartSpec)

/-- ITS FALSE NEIGHBOUR: 'it returns false'. Refute it at one input. -/
def lawS6511APartWrong : ChangeSpec := { name := "lawS6511APart", fn := fun _ => fun
  | [d] => { results := [.lit (.bool false)], args := [d] }
  | _ => none }
def LawS6511APartWrongFormAsk : Prop := lawS6511APartRow.holds Ybaf.pinned (OpenSpec.ofChange lawS6511APartWrong)

end Rows
end Go.Proofs.YbulkeduyFmt
