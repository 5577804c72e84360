/-
  DERIVED. GIVEN WITH THE SEED: THE CARDS: each row of YbulkegjeFmtRows.lean that lists a variable, with what it lists TIED to the program's text (the seventh form; the later family's looks); each row that meets fmt, with fmt's text TOLD by the authors' own Lean function (tested against real Go, not proved from fmt's source: count such statements apart). THE CARD IS WHAT COUNTS. Prove the row's statement (the work); the ties are given (YbulkegjeFmtTie.lean); close each card by the builder's one call (the guide's Derived/Test/ToyasCard.lean, 'card_holds'). Laid BY PROGRAM, IN A SANDBOX (cutbox-door.mjs). By AI agents, Wed Nov 11 2026. No macro, syntax, notation, axiom, sorry.
-/
import Derived.Test.YbulkegjeFmtRows
import GoSem.ClaimSeven
namespace Go.Proofs.YbulkegjeFmt
namespace Rows

/-- THE TOLD CARD OF 'nas.LawS6634ARoundTrip'. -/
def lawS6634ARoundTripCard : Claim7 := { stood := { row := lawS6634ARoundTripRow, standIns := [], harness := (true, "d47fdf3f2680847315a7aa2084e39dbc59309b9e69463f9906cf3992e74d1608"), looks := true }, told := true, goes := false }
def LawS6634ARoundTripToldSaid : Prop := Claim7.holds Ybaf.pinned (.plain (OpenSpec.ofChange lawS6634ARoundTripSpec)) lawS6634ARoundTripCard
/-- ITS FALSE NEIGHBOUR. Refute it at one input. -/
def LawS6634ARoundTripToldWrongFalsely : Prop := Claim7.holds Ybaf.pinned (.plain (OpenSpec.ofChange lawS6634ARoundTripWrong)) lawS6634ARoundTripCard

/-- THE TOLD CARD OF 'nas.LawS6634BWhole'. -/
def lawS6634BWholeCard : Claim7 := { stood := { row := lawS6634BWholeRow, standIns := [], harness := (true, "d47fdf3f2680847315a7aa2084e39dbc59309b9e69463f9906cf3992e74d1608"), looks := true }, told := true, goes := false }
def LawS6634BWholeToldSaid : Prop := Claim7.holds Ybaf.pinned (.plain (OpenSpec.ofChange lawS6634BWholeSpec)) lawS6634BWholeCard
/-- ITS FALSE NEIGHBOUR. Refute it at one input. -/
def LawS6634BWholeToldWrongFalsely : Prop := Claim7.holds Ybaf.pinned (.plain (OpenSpec.ofChange lawS6634BWholeWrong)) lawS6634BWholeCard
end Rows
end Go.Proofs.YbulkegjeFmt
