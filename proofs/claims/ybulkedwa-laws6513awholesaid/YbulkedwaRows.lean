/-
  No cell of these rows narrows 'for every input' (looked for: loops, veiled, ifaces, maps, wideKeys, modest, calm, conditions, laid).
  DERIVED. THE GIVEN ROWS OF THIS SEAT. 2 by the template 'for every input the law returns true; each argument reads behind the call as it read before'; 0 by the template 'total and deterministic' (their statements: YbulkedwaTotals.lean).
  GIVEN WITH THE SEED: the statements are not yours to turn. If you find one false, say at which input.
  Laid BY PROGRAM, IN A SANDBOX (cutbox-rows.mjs): the forced cells as the released guide's own fill.sh prints them over the translation 5765db6d57ae92c8… (all of the seat's roots in one cut). By AI agents, Wed Nov 11 2026. No macro, syntax, notation, axiom, sorry.
-/
import Derived.Test.YbulkedwaChecked
import GoSem.Claim
import GoSem.ClaimJoined
import GoSem.ClaimMapViews
import Derived.JoinedTies
import Derived.KernelRfl
namespace Go.Proofs.Ybulkedwa
/- THE CELL 'sum', in the pinned program and in every row, IS THE sha256 OF THE DUMP (.gsa) THAT YbulkedwaProg.lean LOADS. Nothing in Lean hashes anything: it is a label: what it is worth is what the hold of that sum in a sandbox is worth. -/
noncomputable def Yba.pinned : Pinned := { name := "ybulkedwa", sum := "5765db6d57ae92c87d9f1d8d6e134c197815baf6e72b498436bec9bd5b03596e", checked := Yba.checked }
namespace Rows
def none {H : Type} : Left H := { results := [], args := [] }

/-- 'serialine.LawS6513AWhole': WHATEVER THE INPUT: true; the input reads as it did. -/
def lawS6513AWholeSpec : ChangeSpec := { name := "lawS6513AWhole", fn := fun _ => fun
  | [d1, d2, d3, d4, d5] => { results := [.lit (.bool true)], args := [d1, d2, d3, d4, d5] }
  | _ => none }
def lawS6513AWholeRow : OpenClaim := { program := "ybulkedwa", sum := "5765db6d57ae92c87d9f1d8d6e134c197815baf6e72b498436bec9bd5b03596e", func := "example.com/serialine/serialine.LawS6513AWhole", spec := "lawS6513AWhole", unfollowed := true, recurses := true, apart := false }
def LawS6513AWholeSaid : Prop := lawS6513AWholeRow.holds Yba.pinned (OpenSpec.ofChange lawS6513AWholeSpec)

/-- ITS FALSE NEIGHBOUR: 'it returns false'. Refute it at one input. -/
def lawS6513AWholeWrong : ChangeSpec := { name := "lawS6513AWhole", fn := fun _ => fun
  | [d1, d2, d3, d4, d5] => { results := [.lit (.bool false)], args := [d1, d2, d3, d4, d5] }
  | _ => none }
def LawS6513AWholeWrongFalsely : Prop := lawS6513AWholeRow.holds Yba.pinned (OpenSpec.ofChange lawS6513AWholeWrong)

/-- 'serialine.LawS6513BWhole': WHATEVER THE INPUT: true; the input reads as it did. -/
def lawS6513BWholeSpec : ChangeSpec := { name := "lawS6513BWhole", fn := fun _ => fun
  | [d1, d2, d3, d4, d5, d6, d7] => { results := [.lit (.bool true)], args := [d1, d2, d3, d4, d5, d6, d7] }
  | _ => none }
def lawS6513BWholeRow : OpenClaim := { program := "ybulkedwa", sum := "5765db6d57ae92c87d9f1d8d6e134c197815baf6e72b498436bec9bd5b03596e", func := "example.com/serialine/serialine.LawS6513BWhole", spec := "lawS6513BWhole", unfollowed := true, recurses := true, apart := false }
def LawS6513BWholeSaid : Prop := lawS6513BWholeRow.holds Yba.pinned (OpenSpec.ofChange lawS6513BWholeSpec)

/-- ITS FALSE NEIGHBOUR: 'it returns false'. Refute it at one input. -/
def lawS6513BWholeWrong : ChangeSpec := { name := "lawS6513BWhole", fn := fun _ => fun
  | [d1, d2, d3, d4, d5, d6, d7] => { results := [.lit (.bool false)], args := [d1, d2, d3, d4, d5, d6, d7] }
  | _ => none }
def LawS6513BWholeWrongFalsely : Prop := lawS6513BWholeRow.holds Yba.pinned (OpenSpec.ofChange lawS6513BWholeWrong)

end Rows
end Go.Proofs.Ybulkedwa
