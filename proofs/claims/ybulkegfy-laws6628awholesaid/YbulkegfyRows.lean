/-
  No cell of these rows narrows 'for every input' (looked for: loops, veiled, ifaces, maps, wideKeys, modest, calm, conditions, laid).
  DERIVED. THE GIVEN ROWS OF THIS SEAT. 2 by the template 'for every input the law returns true; each argument reads behind the call as it read before'; 0 by the template 'total and deterministic' (their statements: YbulkegfyTotals.lean).
  GIVEN WITH THE SEED: the statements are not yours to turn. If you find one false, say at which input.
  Laid BY PROGRAM, IN A SANDBOX (cutbox-rows.mjs): the forced cells as the released guide's own fill.sh prints them over the translation 3dcc43571bb2ca95… (all of the seat's roots in one cut). By AI agents, Wed Nov 11 2026. No macro, syntax, notation, axiom, sorry.
-/
import Derived.Test.YbulkegfyChecked
import GoSem.Claim
import GoSem.ClaimJoined
import GoSem.ClaimMapViews
import Derived.JoinedTies
import Derived.KernelRfl
namespace Go.Proofs.Ybulkegfy
/- THE CELL 'sum', in the pinned program and in every row, IS THE sha256 OF THE DUMP (.gsa) THAT YbulkegfyProg.lean LOADS. Nothing in Lean hashes anything: it is a label: what it is worth is what the hold of that sum in a sandbox is worth. -/
noncomputable def Yba.pinned : Pinned := { name := "ybulkegfy", sum := "3dcc43571bb2ca955660958023b921475682f7d4fe8e3bd4c605157f025979ac", checked := Yba.checked }
namespace Rows
def none {H : Type} : Left H := { results := [], args := [] }

/-- 'verhogen.LawS6628AWhole': WHATEVER THE INPUT: true; the input reads as it did. -/
def lawS6628AWholeSpec : ChangeSpec := { name := "lawS6628AWhole", fn := fun _ => fun
  | [d1, d2, d3, d4, d5] => { results := [.lit (.bool true)], args := [d1, d2, d3, d4, d5] }
  | _ => none }
def lawS6628AWholeRow : OpenClaim := { program := "ybulkegfy", sum := "3dcc43571bb2ca955660958023b921475682f7d4fe8e3bd4c605157f025979ac", func := "example.com/verhogen/verhogen.LawS6628AWhole", spec := "lawS6628AWhole", inPlace := ["sync/atomic.StoreInt64", "sync/atomic.AddInt64", "sync/atomic.LoadInt64"], apart := false }
def LawS6628AWholeSaid : Prop := lawS6628AWholeRow.holds Yba.pinned (OpenSpec.ofChange lawS6628AWholeSpec)

/-- ITS FALSE NEIGHBOUR: 'it returns false'. Refute it at one input. -/
def lawS6628AWholeWrong : ChangeSpec := { name := "lawS6628AWhole", fn := fun _ => fun
  | [d1, d2, d3, d4, d5] => { results := [.lit (.bool false)], args := [d1, d2, d3, d4, d5] }
  | _ => none }
def LawS6628AWholeWrongFalsely : Prop := lawS6628AWholeRow.holds Yba.pinned (OpenSpec.ofChange lawS6628AWholeWrong)

/-- 'verhogen.LawS6628CWhole': WHATEVER THE INPUT: true; the input reads as it did. -/
def lawS6628CWholeSpec : ChangeSpec := { name := "lawS6628CWhole", fn := fun _ => fun
  | [d1, d2, d3, d4, d5, d6] => { results := [.lit (.bool true)], args := [d1, d2, d3, d4, d5, d6] }
  | _ => none }
def lawS6628CWholeRow : OpenClaim := { program := "ybulkegfy", sum := "3dcc43571bb2ca955660958023b921475682f7d4fe8e3bd4c605157f025979ac", func := "example.com/verhogen/verhogen.LawS6628CWhole", spec := "lawS6628CWhole", inPlace := ["sync/atomic.StoreInt64", "sync/atomic.LoadInt64"], apart := false }
def LawS6628CWholeSaid : Prop := lawS6628CWholeRow.holds Yba.pinned (OpenSpec.ofChange lawS6628CWholeSpec)

/-- ITS FALSE NEIGHBOUR: 'it returns false'. Refute it at one input. -/
def lawS6628CWholeWrong : ChangeSpec := { name := "lawS6628CWhole", fn := fun _ => fun
  | [d1, d2, d3, d4, d5, d6] => { results := [.lit (.bool false)], args := [d1, d2, d3, d4, d5, d6] }
  | _ => none }
def LawS6628CWholeWrongFalsely : Prop := lawS6628CWholeRow.holds Yba.pinned (OpenSpec.ofChange lawS6628CWholeWrong)

end Rows
end Go.Proofs.Ybulkegfy
