/-
  NARROWER THAN 'FOR EVERY INPUT', by the rows' own cells (each row's printed sentence says how): LawS6509APart: ifaces, laid · LawS6509ARoundTrip: ifaces, laid.
  DERIVED. THE GIVEN ROWS OF THIS SEAT. 2 by the template 'for every input the law returns true; each argument reads behind the call as it read before'; 0 by the template 'total and deterministic' (their statements: YbulkedtwFmtTotals.lean).
  GIVEN WITH THE SEED: the statements are not yours to turn. If you find one false, say at which input.
  Laid BY PROGRAM, IN A SANDBOX (cutbox-rows.mjs): the forced cells as the released guide's own fill.sh prints them over the translation 45266690bd4bf800… (all of the seat's roots in one cut). By AI agents, Wed Nov 11 2026. No macro, syntax, notation, axiom, sorry.
-/
import Derived.Test.YbulkedtwFmtChecked
import GoSem.Claim
import GoSem.ClaimJoined
import GoSem.ClaimMapViews
import Derived.JoinedTies
import Derived.KernelRfl
namespace Go.Proofs.YbulkedtwFmt
/- THE CELL 'sum', in the pinned program and in every row, IS THE sha256 OF THE DUMP (.gsa) THAT YbulkedtwFmtProg.lean LOADS. Nothing in Lean hashes anything: it is a label: what it is worth is what the hold of that sum in a sandbox is worth. -/
noncomputable def Ybaf.pinned : Pinned := { name := "ybulkedtwfmt", sum := "45266690bd4bf800ed77afc834c319c514b95f1c37de6699079c7217b60d6436", checked := Ybaf.checked }
namespace Rows
def none {H : Type} : Left H := { results := [], args := [] }

/- WHAT THE LISTED PACKAGE-LEVEL VARIABLES READ AS WHEN THE CALL BEGINS. Each datum BY PROGRAM (the guide's laid-datum.mjs) off the statement by which the dump's own 'gosem.cut.vars' lays the variable. In a bare row this is a premise. The card (YbulkedtwFmtCards.lean) ties it to the program's text. -/
def laid_example_com_quorumline_quorumline_internal_codec_errShort {H : Type} : DataW H := .iface "*errors.errorString" (.ptr (.agg [.lit (.string [112, 97, 121, 108, 111, 97, 100, 32, 101, 110, 100, 115, 32, 105, 110, 115, 105, 100, 101, 32, 97, 32, 102, 105, 101, 108, 100])]))

/-- 'quorumline.LawS6509APart': WHATEVER THE INPUT: true; the input reads as it did. -/
def lawS6509APartSpec : ChangeSpec := { name := "lawS6509APart", vars := ["example.com/quorumline/quorumline/internal/codec.errShort"], fn := fun _ => fun
  | [d1, d2, g1] => { results := [.lit (.bool true)], args := [d1, d2], vars := [g1] }
  | _ => none }
def lawS6509APartRow : OpenClaim := { program := "ybulkedtwfmt", sum := "45266690bd4bf800ed77afc834c319c514b95f1c37de6699079c7217b60d6436", func := "example.com/quorumline/quorumline.LawS6509APart", spec := "lawS6509APart", stops := ["fmt.errorf"], inPlace := ["fmt.errorf"], named := ["example.com/quorumline/quorumline/internal/codec.errShort"], ifaces := true, apart := false, laid := [("example.com/quorumline/quorumline/internal/codec.errShort", laid_example_com_quorumline_quorumline_internal_codec_errShort)] }
/-- NO THEOREM (fmt's text is open here; it may be false): for the released tool's asking of the row's closed facts alone. THE STATEMENT IS 'LawS6509APartToldSaid' (YbulkedtwFmtCards.lean). -/
def LawS6509APartFormAsk : Prop := lawS6509APartRow.holds Ybaf.pinned (OpenSpec.ofChange lawS6509APartSpec)

/-- ITS FALSE NEIGHBOUR: 'it returns false'. Refute it at one input. -/
def lawS6509APartWrong : ChangeSpec := { name := "lawS6509APart", vars := ["example.com/quorumline/quorumline/internal/codec.errShort"], fn := fun _ => fun
  | [d1, d2, g1] => { results := [.lit (.bool false)], args := [d1, d2], vars := [g1] }
  | _ => none }
def LawS6509APartWrongFormAsk : Prop := lawS6509APartRow.holds Ybaf.pinned (OpenSpec.ofChange lawS6509APartWrong)

/-- 'quorumline.LawS6509ARoundTrip': WHATEVER THE INPUT: true; the input reads as it did. -/
def lawS6509ARoundTripSpec : ChangeSpec := { name := "lawS6509ARoundTrip", vars := ["example.com/quorumline/quorumline/internal/codec.errShort"], fn := fun _ => fun
  | [d1, d2, g1] => { results := [.lit (.bool true)], args := [d1, d2], vars := [g1] }
  | _ => none }
def lawS6509ARoundTripRow : OpenClaim := { program := "ybulkedtwfmt", sum := "45266690bd4bf800ed77afc834c319c514b95f1c37de6699079c7217b60d6436", func := "example.com/quorumline/quorumline.LawS6509ARoundTrip", spec := "lawS6509ARoundTrip", stops := ["fmt.errorf"], inPlace := ["fmt.errorf"], named := ["example.com/quorumline/quorumline/internal/codec.errShort"], ifaces := true, apart := false, laid := [("example.com/quorumline/quorumline/internal/codec.errShort", laid_example_com_quorumline_quorumline_internal_codec_errShort)] }
/-- NO THEOREM (fmt's text is open here; it may be false): for the released tool's asking of the row's closed facts alone. THE STATEMENT IS 'LawS6509ARoundTripToldSaid' (YbulkedtwFmtCards.lean). -/
def LawS6509ARoundTripFormAsk : Prop := lawS6509ARoundTripRow.holds Ybaf.pinned (OpenSpec.ofChange lawS6509ARoundTripSpec)

/-- ITS FALSE NEIGHBOUR: 'it returns false'. Refute it at one input. -/
def lawS6509ARoundTripWrong : ChangeSpec := { name := "lawS6509ARoundTrip", vars := ["example.com/quorumline/quorumline/internal/codec.errShort"], fn := fun _ => fun
  | [d1, d2, g1] => { results := [.lit (.bool false)], args := [d1, d2], vars := [g1] }
  | _ => none }
def LawS6509ARoundTripWrongFormAsk : Prop := lawS6509ARoundTripRow.holds Ybaf.pinned (OpenSpec.ofChange lawS6509ARoundTripWrong)

end Rows
end Go.Proofs.YbulkedtwFmt
