/-
  DERIVED. GIVEN WITH THE SEED: THE CARDS: each row of YbulkeghoFmtRows.lean that lists a variable, with what it lists TIED to the program's text (the seventh form; the later family's looks); each row that meets fmt, with fmt's text TOLD by the authors' own Lean function (tested against real Go, not proved from fmt's source: count such statements apart). THE CARD IS WHAT COUNTS. Prove the row's statement (the work); the ties are given (YbulkeghoFmtTie.lean); close each card by the builder's one call (the guide's Derived/Test/ToyasCard.lean, 'card_holds'). Laid BY PROGRAM, IN A SANDBOX (cutbox-door.mjs). By AI agents, Wed Nov 11 2026. No macro, syntax, notation, axiom, sorry.
-/
import Derived.Test.YbulkeghoFmtRows
import GoSem.ClaimSeven
namespace Go.Proofs.YbulkeghoFmt
namespace Rows

/-- THE TOLD CARD OF 'layout.LawS6631APart'. -/
def lawS6631APartCard : Claim7 := { stood := { row := lawS6631APartRow, standIns := [], harness := (true, "f90c6cd3fdc8769db181a89d6e6a37dcae872cb2debdf251665f41d37c5a72ed"), looks := false }, told := true, goes := false }
def LawS6631APartToldSaid : Prop := Claim7.holds Ybaf.pinned (.plain (OpenSpec.ofChange lawS6631APartSpec)) lawS6631APartCard
/-- ITS FALSE NEIGHBOUR. Refute it at one input. -/
def LawS6631APartToldWrongFalsely : Prop := Claim7.holds Ybaf.pinned (.plain (OpenSpec.ofChange lawS6631APartWrong)) lawS6631APartCard

/-- THE TOLD AND TIED CARD OF 'layout.LawS6631ARoundTrip'. -/
def lawS6631ARoundTripCard : Claim7 := { stood := { row := lawS6631ARoundTripRow, standIns := [], harness := (true, "f90c6cd3fdc8769db181a89d6e6a37dcae872cb2debdf251665f41d37c5a72ed"), looks := false }, told := true, laidByText := true, laidKinds := [.sentinel], laidTests := true, laidLooks := .later, goes := false }
def LawS6631ARoundTripToldSaid : Prop := Claim7.holds Ybaf.pinned (.plain (OpenSpec.ofChange lawS6631ARoundTripSpec)) lawS6631ARoundTripCard
/-- ITS FALSE NEIGHBOUR. Refute it at one input. -/
def LawS6631ARoundTripToldWrongFalsely : Prop := Claim7.holds Ybaf.pinned (.plain (OpenSpec.ofChange lawS6631ARoundTripWrong)) lawS6631ARoundTripCard
end Rows
end Go.Proofs.YbulkeghoFmt
