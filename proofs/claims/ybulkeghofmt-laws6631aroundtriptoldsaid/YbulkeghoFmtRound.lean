import Derived.Test.YbulkeghoFmtTrip
import Derived.Test.YbulkeghoFmtCards
import Derived.Test.YbulkeghoFmtTie
import Derived.ProofKit
import Derived.OpenShut
import Derived.ChangeSame
import Derived.JoinedOf
import Derived.Carry
import Derived.Stop.JoinedAt
import Derived.Stop.Texts
import Derived.Stop.JoinedTold
import Derived.Stop.LaidErr
import Derived.SevenToldRow
import Derived.SevenTiedAt
import Derived.OpenVars
namespace Go.Proofs.YbulkeghoFmt
open Go.ChangeShapes Go.WideShapes Go.ChangeAt Go.RowKit Go.Kit
open Go.Extern.Stop Go.Stop Go.Extern

theorem ownR : ownKnob Ybaf.prog.godebug = none := by kernel_rfl
theorem laidOutR : laidOutB Ybaf.pinned.checked.prog = true := by kernel_rfl
theorem stopsR : Ybaf.pinned.checked.prog.stops = ["fmt.Sprintf", "fmt.errorf"] := by kernel_rfl
theorem stopKnobsR : Ybaf.pinned.checked.prog.stopKnobs = [] := by kernel_rfl
theorem quietR (os : Os) : Stop.quiet Ybaf.pinned.checked.prog os := by
  intro k hk
  rw [stopKnobsR] at hk
  cases hk

/-- A start that fits: the sentinel is laid in a new block, the variable leads to it. -/
theorem witnessR (os : Os) (H : Type) (enc : TypeId × Value → H) : ∃ w0 : World, w0.os = os ∧
    (w0.forCall (fun _ _ => 0) ⟨#[], #[.int .u8 0, .int .i64 0], []⟩).variablesB Ybaf.checked.prog = true ∧
    ((w0.forCall (fun _ _ => 0) ⟨#[], #[.int .u8 0, .int .i64 0], []⟩).heap.toList.drop Ybaf.checked.prog.globals.size).take ((begin Ybaf.checked.prog (fun _ _ => 0) default).world.heap.size - Ybaf.checked.prog.globals.size) =
      (begin Ybaf.checked.prog (fun _ _ => 0) default).world.heap.toList.drop Ybaf.checked.prog.globals.size ∧
    Input.okWideB Ybaf.checked.prog (w0.forCall (fun _ _ => 0) ⟨#[], #[.int .u8 0, .int .i64 0], []⟩) 4 ⟨#[], #[.int .u8 0, .int .i64 0], []⟩ = true ∧
    (OpenSpec.ofChange Rows.lawS6631ARoundTripSpec).preRow enc Ybaf.checked.prog Ybaf.f4 [] false Rows.lawS6631ARoundTripRow.laid (w0.forCall (fun _ _ => 0) ⟨#[], #[.int .u8 0, .int .i64 0], []⟩).memory #[.int .u8 0, .int .i64 0] := by
  refine ⟨{ (World.holding Ybaf.prog os ⟨#[.cells #[.string ⟨#[117, 110, 107, 110, 111, 119, 110, 32, 102, 105, 108, 101, 32, 109, 111, 100, 101]⟩] 38], #[], []⟩) with
      heap := (World.holding Ybaf.prog os ⟨#[.cells #[.string ⟨#[117, 110, 107, 110, 111, 119, 110, 32, 102, 105, 108, 101, 32, 109, 111, 100, 101]⟩] 38], #[], []⟩).heap.modify 0 fun
        | .cells _ t frozen => .cells #[.iface 36 (.pointer (some ⟨(World.settled Ybaf.prog os).heap.size, 0, none⟩))] t frozen
        | o => o }, rfl, ?_, ?_, ?_, ?_⟩
  · kernel_rfl
  · kernel_rfl
  · kernel_rfl
  · exact OpenSpec.preRow_of_B rfl 8 (by kernel_rfl) (by kernel_rfl) (laidMet_of_run (ps := [.cell 0 0, .cell (World.settled Ybaf.prog os).heap.size 0]) 8 (by kernel_rfl) (by kernel_rfl) (by kernel_rfl))

set_option maxRecDepth 100000 in
theorem round_lifted (os : Os) (started : os.Started) (H : Type) (enc : TypeId × Value → H) :
    ReturnsInTold none {} Ybaf.checked os 4 .any Input.okWide ((OpenSpec.ofChange Rows.lawS6631ARoundTripSpec).preRow enc Ybaf.prog Ybaf.f4 [] false Rows.lawS6631ARoundTripRow.laid) (fun F => ((OpenSpec.ofChange Rows.lawS6631ARoundTripSpec).at F).post enc Ybaf.prog Ybaf.f4 false true false false) (aloneAtReturn Ybaf.prog) nothingAlways := by
  obtain ⟨w0, hos, hv, hr, hok, hrow⟩ := witnessR os H enc
  refine returnsInTold_of_row (C := Ybaf.checked) (s := OpenSpec.ofChange Rows.lawS6631ARoundTripSpec) (by kernel_rfl) ownR started (by kernel_rfl) Ybaf.func4
    (OpenSpec.witness_stopped_at (enc := enc) (C := Ybaf.checked) false w0 #[.int .u8 0, .int .i64 0] hos hv hr hok hrow) ?_
  clear hos hv hr hok hrow
  intro F W base args ds gs before _ hF hval0 hW _ _ hsz _ _
  have hval : ∀ (j : Nat) t v, Ybaf.f4.params[j]? = some t → args[j]? = some v → Value.okWide Ybaf.prog W .any base t v := hval0
  have hW' := hW
  obtain ⟨p, q, hA0, hV0, rfl, _, _⟩ := hW
  have hA : DataW.TrodAll enc Ybaf.prog W 0 (fun _ => true) true Ybaf.f4.params.toList args.toList ds p := hA0
  have hV : DataW.TrodVars enc Ybaf.prog W (fun _ => true) Rows.lawS6631ARoundTripSpec.vars gs q := hV0
  rw [Ybaf.params4] at hA hval
  obtain ⟨v0, v1, d0, d1, p0, p1, rfl, rfl, rfl, h0, h1⟩ := trodAll_two hA
  obtain ⟨sel, rfl, rfl, rfl, ws⟩ := open_int Ybaf.underlying5 (hval 0 5 v0 rfl rfl) h0
  obtain ⟨start, rfl, rfl, rfl, wt⟩ := open_int Ybaf.underlying3 (hval 1 3 v1 rfl rfl) h1
  obtain ⟨g1, rfl⟩ : ∃ g1, gs = [g1] := by
    match gs, hV with
    | [g1], _ => exact ⟨g1, rfl⟩
    | [], h => exact h.elim
    | _ :: _ :: _, h => obtain ⟨_, _, _, _, _, _, _, _, _, _, h, _⟩ := h; exact h.elim
  clear hA0 hV0 hval0
  have hb := bounds_u8 ws
  refine (trip_any sel start W hb.1 (by omega)).mono fun e W' ⟨he, bel⟩ => ?_
  subst he
  exact ⟨_, rfl, _, _, _, [], [] ++ [], q, hW', trodAll_mk1 (shut_bool Ybaf.underlying4 _), trodAll_mk2 (shut_int Ybaf.underlying5 ws) (shut_int Ybaf.underlying3 wt), Below.trodVars laidOutR bel (by kernel_rfl) hV, bel.frame _, fun h => by cases h⟩

theorem round_holds : Rows.LawS6631ARoundTripToldSaid :=
  Claim7.holds_of_told_tied_any_at .later 4 Ybaf.f4 "fmt.Sprintf" ["fmt.errorf"] [] _ _ _ _ _ (by kernel_rfl) rfl rfl rfl laidOutR (by kernel_rfl) rfl ⟨rfl, rfl, rfl, rfl, rfl, rfl, rfl⟩ rfl rfl (by kernel_rfl) (by kernel_rfl) Ybaf.func4 (by kernel_rfl)
    (of_decide_eq_true (by kernel_rfl)) (by unfold Func.isWrapper; first | (rw [if_pos (by decide +kernel)]; kernel_rfl) | (rw [if_neg (by decide +kernel)]; exact ⟨rfl, rfl⟩)) stopsR.symm rfl stopKnobsR.symm (by kernel_rfl)
    (by kernel_rfl) (by kernel_rfl) (by kernel_rfl) (by kernel_rfl) (by kernel_rfl) (by kernel_rfl) (by kernel_rfl) (by kernel_rfl) (by kernel_rfl) rfl (by kernel_rfl) rfl rfl
    rfl rfl
    rfl (by kernel_rfl) (by kernel_rfl) (by kernel_rfl) (by decide) (by kernel_rfl) lawS6631ARoundTrip_row_tie
    (OpenClaim.moreEntering_of (by kernel_rfl) (by kernel_rfl) (by kernel_rfl) (by kernel_rfl) (by kernel_rfl) (by kernel_rfl) (by kernel_rfl) (by kernel_rfl) (by kernel_rfl) (by kernel_rfl))
    ⟨_, WideRow.started_initial, quietR _⟩
    (fun os started _ H enc _ => round_lifted os started H enc)
#print axioms round_holds
end Go.Proofs.YbulkeghoFmt
