/-
  No cell of these rows narrows 'for every input' (looked for: loops, veiled, ifaces, maps, wideKeys, modest, calm, conditions, laid).
  DERIVED. THE GIVEN ROWS OF THIS SEAT. 2 by the template 'for every input the law returns true; each argument reads behind the call as it read before'; 0 by the template 'total and deterministic' (their statements: YbulkegjeFmtTotals.lean).
  GIVEN WITH THE SEED: the statements are not yours to turn. If you find one false, say at which input.
  Laid BY PROGRAM, IN A SANDBOX (cutbox-rows.mjs): the forced cells as the released guide's own fill.sh prints them over the translation ad10731cd65bceb7… (all of the seat's roots in one cut). By AI agents, Wed Nov 11 2026. No macro, syntax, notation, axiom, sorry.
-/
import Derived.Test.YbulkegjeFmtChecked
import GoSem.Claim
import GoSem.ClaimJoined
import GoSem.ClaimMapViews
import Derived.JoinedTies
import Derived.KernelRfl
namespace Go.Proofs.YbulkegjeFmt
/- THE CELL 'sum', in the pinned program and in every row, IS THE sha256 OF THE DUMP (.gsa) THAT YbulkegjeFmtProg.lean LOADS. Nothing in Lean hashes anything: it is a label: what it is worth is what the hold of that sum in a sandbox is worth. -/
noncomputable def Ybaf.pinned : Pinned := { name := "ybulkegjefmt", sum := "ad10731cd65bceb7fcad3bac23d1a8b9a826d44fe4f5def5b4c1b4343d3bee82", checked := Ybaf.checked }
namespace Rows
def none {H : Type} : Left H := { results := [], args := [] }

/-- 'nas.LawS6634ARoundTrip': WHATEVER THE INPUT: true; the input reads as it did. -/
def lawS6634ARoundTripSpec : ChangeSpec := { name := "lawS6634ARoundTrip", fn := fun _ => fun
  | [d1, d2, d3, d4] => { results := [.lit (.bool true)], args := [d1, d2, d3, d4] }
  | _ => none }
def lawS6634ARoundTripRow : OpenClaim := { program := "ybulkegjefmt", sum := "ad10731cd65bceb7fcad3bac23d1a8b9a826d44fe4f5def5b4c1b4343d3bee82", func := "example.com/attestor/attestor/internal/nas.LawS6634ARoundTrip", spec := "lawS6634ARoundTrip", stops := ["fmt.Sprintf", "fmt.errorf, its operands' methods called"], inPlace := ["fmt.Sprintf", "fmt.errorf"], unfollowed := true, recurses := true, named := ["encoding/binary.BigEndian"], apart := false }
/-- NO THEOREM (fmt's text is open here; it may be false): for the released tool's asking of the row's closed facts alone. THE STATEMENT IS 'LawS6634ARoundTripToldSaid' (YbulkegjeFmtCards.lean). -/
def LawS6634ARoundTripFormAsk : Prop := lawS6634ARoundTripRow.holds Ybaf.pinned (OpenSpec.ofChange lawS6634ARoundTripSpec)

/-- ITS FALSE NEIGHBOUR: 'it returns false'. Refute it at one input. -/
def lawS6634ARoundTripWrong : ChangeSpec := { name := "lawS6634ARoundTrip", fn := fun _ => fun
  | [d1, d2, d3, d4] => { results := [.lit (.bool false)], args := [d1, d2, d3, d4] }
  | _ => none }
def LawS6634ARoundTripWrongFormAsk : Prop := lawS6634ARoundTripRow.holds Ybaf.pinned (OpenSpec.ofChange lawS6634ARoundTripWrong)

/-- 'nas.LawS6634BWhole': WHATEVER THE INPUT: true; the input reads as it did. -/
def lawS6634BWholeSpec : ChangeSpec := { name := "lawS6634BWhole", fn := fun _ => fun
  | [d1, d2, d3, d4, d5, d6] => { results := [.lit (.bool true)], args := [d1, d2, d3, d4, d5, d6] }
  | _ => none }
def lawS6634BWholeRow : OpenClaim := { program := "ybulkegjefmt", sum := "ad10731cd65bceb7fcad3bac23d1a8b9a826d44fe4f5def5b4c1b4343d3bee82", func := "example.com/attestor/attestor/internal/nas.LawS6634BWhole", spec := "lawS6634BWhole", stops := ["fmt.Sprintf", "fmt.errorf, its operands' methods called"], inPlace := ["fmt.Sprintf", "fmt.errorf"], unfollowed := true, recurses := true, apart := false }
/-- NO THEOREM (fmt's text is open here; it may be false): for the released tool's asking of the row's closed facts alone. THE STATEMENT IS 'LawS6634BWholeToldSaid' (YbulkegjeFmtCards.lean). -/
def LawS6634BWholeFormAsk : Prop := lawS6634BWholeRow.holds Ybaf.pinned (OpenSpec.ofChange lawS6634BWholeSpec)

/-- ITS FALSE NEIGHBOUR: 'it returns false'. Refute it at one input. -/
def lawS6634BWholeWrong : ChangeSpec := { name := "lawS6634BWhole", fn := fun _ => fun
  | [d1, d2, d3, d4, d5, d6] => { results := [.lit (.bool false)], args := [d1, d2, d3, d4, d5, d6] }
  | _ => none }
def LawS6634BWholeWrongFormAsk : Prop := lawS6634BWholeRow.holds Ybaf.pinned (OpenSpec.ofChange lawS6634BWholeWrong)

end Rows
end Go.Proofs.YbulkegjeFmt
