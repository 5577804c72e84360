/-
  NARROWER THAN 'FOR EVERY INPUT', by the rows' own cells (each row's printed sentence says how): LawS6631ARoundTrip: ifaces, laid.
  DERIVED. THE GIVEN ROWS OF THIS SEAT. 2 by the template 'for every input the law returns true; each argument reads behind the call as it read before'; 0 by the template 'total and deterministic' (their statements: YbulkeghoFmtTotals.lean).
  GIVEN WITH THE SEED: the statements are not yours to turn. If you find one false, say at which input.
  Laid BY PROGRAM, IN A SANDBOX (cutbox-rows.mjs): the forced cells as the released guide's own fill.sh prints them over the translation cc197c8d2c64acd1… (all of the seat's roots in one cut). By AI agents, Wed Nov 11 2026. No macro, syntax, notation, axiom, sorry.
-/
import Derived.Test.YbulkeghoFmtChecked
import GoSem.Claim
import GoSem.ClaimJoined
import GoSem.ClaimMapViews
import Derived.JoinedTies
import Derived.KernelRfl
namespace Go.Proofs.YbulkeghoFmt
/- THE CELL 'sum', in the pinned program and in every row, IS THE sha256 OF THE DUMP (.gsa) THAT YbulkeghoFmtProg.lean LOADS. Nothing in Lean hashes anything: it is a label: what it is worth is what the hold of that sum in a sandbox is worth. -/
noncomputable def Ybaf.pinned : Pinned := { name := "ybulkeghofmt", sum := "cc197c8d2c64acd1189034eab159c4759bfeca82adafd26cc3c33a2079880a1e", checked := Ybaf.checked }
namespace Rows
def none {H : Type} : Left H := { results := [], args := [] }

/- WHAT THE LISTED PACKAGE-LEVEL VARIABLES READ AS WHEN THE CALL BEGINS. Each datum BY PROGRAM (the guide's laid-datum.mjs) off the statement by which the dump's own 'gosem.cut.vars' lays the variable. In a bare row this is a premise. The card (YbulkeghoFmtCards.lean) ties it to the program's text. -/
def laid_example_com_piecewise_piecewise_internal_layout_ErrUnknownMode {H : Type} : DataW H := .iface "*errors.errorString" (.ptr (.agg [.lit (.string [117, 110, 107, 110, 111, 119, 110, 32, 102, 105, 108, 101, 32, 109, 111, 100, 101])]))

/-- 'layout.LawS6631APart': WHATEVER THE INPUT: true; the input reads as it did. -/
def lawS6631APartSpec : ChangeSpec := { name := "lawS6631APart", fn := fun _ => fun
  | [d] => { results := [.lit (.bool true)], args := [d] }
  | _ => none }
def lawS6631APartRow : OpenClaim := { program := "ybulkeghofmt", sum := "cc197c8d2c64acd1189034eab159c4759bfeca82adafd26cc3c33a2079880a1e", func := "example.com/piecewise/piecewise/internal/layout.LawS6631APart", spec := "lawS6631APart", stops := ["fmt.Sprintf", "fmt.errorf"], inPlace := ["fmt.Sprintf"], apart := false }
/-- NO THEOREM (fmt's text is open here; it may be false): for the released tool's asking of the row's closed facts alone. THE STATEMENT IS 'LawS6631APartToldSaid' (YbulkeghoFmtCards.lean). -/
def LawS6631APartFormAsk : Prop := lawS6631APartRow.holds Ybaf.pinned (OpenSpec.ofChange lawS6631APartSpec)

/-- ITS FALSE NEIGHBOUR: 'it returns false'. Refute it at one input. -/
def lawS6631APartWrong : ChangeSpec := { name := "lawS6631APart", fn := fun _ => fun
  | [d] => { results := [.lit (.bool false)], args := [d] }
  | _ => none }
def LawS6631APartWrongFormAsk : Prop := lawS6631APartRow.holds Ybaf.pinned (OpenSpec.ofChange lawS6631APartWrong)

/-- 'layout.LawS6631ARoundTrip': WHATEVER THE INPUT: true; the input reads as it did. -/
def lawS6631ARoundTripSpec : ChangeSpec := { name := "lawS6631ARoundTrip", vars := ["example.com/piecewise/piecewise/internal/layout.ErrUnknownMode"], fn := fun _ => fun
  | [d1, d2, g1] => { results := [.lit (.bool true)], args := [d1, d2], vars := [g1] }
  | _ => none }
def lawS6631ARoundTripRow : OpenClaim := { program := "ybulkeghofmt", sum := "cc197c8d2c64acd1189034eab159c4759bfeca82adafd26cc3c33a2079880a1e", func := "example.com/piecewise/piecewise/internal/layout.LawS6631ARoundTrip", spec := "lawS6631ARoundTrip", stops := ["fmt.Sprintf", "fmt.errorf"], inPlace := ["fmt.Sprintf", "fmt.errorf"], named := ["example.com/piecewise/piecewise/internal/layout.ErrUnknownMode"], ifaces := true, apart := false, laid := [("example.com/piecewise/piecewise/internal/layout.ErrUnknownMode", laid_example_com_piecewise_piecewise_internal_layout_ErrUnknownMode)] }
/-- NO THEOREM (fmt's text is open here; it may be false): for the released tool's asking of the row's closed facts alone. THE STATEMENT IS 'LawS6631ARoundTripToldSaid' (YbulkeghoFmtCards.lean). -/
def LawS6631ARoundTripFormAsk : Prop := lawS6631ARoundTripRow.holds Ybaf.pinned (OpenSpec.ofChange lawS6631ARoundTripSpec)

/-- ITS FALSE NEIGHBOUR: 'it returns false'. Refute it at one input. -/
def lawS6631ARoundTripWrong : ChangeSpec := { name := "lawS6631ARoundTrip", vars := ["example.com/piecewise/piecewise/internal/layout.ErrUnknownMode"], fn := fun _ => fun
  | [d1, d2, g1] => { results := [.lit (.bool false)], args := [d1, d2], vars := [g1] }
  | _ => none }
def LawS6631ARoundTripWrongFormAsk : Prop := lawS6631ARoundTripRow.holds Ybaf.pinned (OpenSpec.ofChange lawS6631ARoundTripWrong)

end Rows
end Go.Proofs.YbulkeghoFmt
