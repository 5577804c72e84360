import Derived.Test.YbulkeghoFmtRows
import Derived.WalkKit
import Derived.WalkSpells
import Derived.Below
import Derived.Stop.CallBack
import Derived.Stop.IfaceNil
namespace Go.Proofs.YbulkeghoFmt
open Go.RowKit Go.Extern.Stop Go.Stop Go.Extern

theorem call7 (args : Array Value) (w : World) : (callFunc 7 args).run Ybaf.prog w = ((FmtStop.sprintf #[9, 33] #[9] args).run Ybaf.prog w).andThen fun v w' => .ok (.value v) w' :=
  run_callFunc_extern Ybaf.func7 (by kernel_rfl) (by kernel_rfl) (by kernel_rfl) (by kernel_rfl) args w
theorem guardF (name : String) (w : World) : (FmtStop.guard name).run Ybaf.prog w = .ok () w := by kernel_rfl
theorem fmtM : FmtStop.printed? ⟨#[77, 111, 100, 101, 40, 37, 100, 41]⟩ 1 = some [(0, 100, false)] := by kernel_rfl
theorem fmtMr (w : World) : (FmtDoors.printed ⟨#[77, 111, 100, 101, 40, 37, 100, 41]⟩ 1).run Ybaf.prog w = .ok [(0, 100, false)] w := by kernel_rfl
def shape3 : List UInt8 := [5, 3, 0, 0, 0, 0, 0, 0, 0, 105, 110, 116]
theorem op3 (name : String) (x : Int) (w : World) : (FmtStop.operand name false 100 false (.iface 3 (.int .i64 x))).run Ybaf.prog w = .ok (shape3, Go.Extern.Stop.digits 8 (x % 2 ^ 64).toNat) w := by kernel_rfl

/-- '(Mode).String' at the two known modes. -/
theorem string_one (w : World) : Calls Ybaf.prog 5 #[.int .i64 1] w fun e w' => e = .returned (.string ⟨#[119, 104, 111, 108, 101]⟩) ∧ w' = w := by
  go_enter Ybaf.func5, Ybaf.ntmps5
  go_wp2
  go_ret
  exact ⟨rfl, rfl⟩
theorem string_two (w : World) : Calls Ybaf.prog 5 #[.int .i64 2] w fun e w' => e = .returned (.string ⟨#[102, 114, 97, 103, 109, 101, 110, 116, 101, 100]⟩) ∧ w' = w := by
  go_enter Ybaf.func5, Ybaf.ntmps5
  go_wp2
  go_ret
  exact ⟨rfl, rfl⟩
/-- .. and at every other, whatever fmt gives. -/
theorem string_other (F : Interp) (x : Int) (w : World) (hF : F.answers w.tape) (h1 : (x == 1) = false) (h2 : (x == 2) = false) :
    Calls Ybaf.prog 5 #[.int .i64 x] w fun e w' => (∃ s, e = .returned (.string s)) ∧ Below w.heap.size w w' := by
  have hF' := answers_open hF
  have hop := op3
  have hc7 := call7
  have hg := guardF
  have hf := fmtM
  have hfr := fmtMr
  go_enter Ybaf.func5, Ybaf.ntmps5
  go_wp2
  go_ret
  exact ⟨⟨_, rfl⟩, ((Below.refl _ w).alloc (Nat.le_refl _) _).drew⟩

theorem part_any (F : Interp) (x : Int) (w : World) (hF : F.answers w.tape) :
    Calls Ybaf.prog 3 #[.int .i64 x] w fun e w' => e = .returned (.bool true) ∧ Below w.heap.size w w' := by
  by_cases h1 : x = 1
  · subst h1
    go_enter Ybaf.func3, Ybaf.ntmps3
    go_wp2_with (go_at_call 5; refine (string_one _).mono ?_; rintro e w' ⟨rfl, rfl⟩)
    go_ret
    exact ⟨rfl, Below.refl _ _⟩
  · by_cases h2 : x = 2
    · subst h2
      go_enter Ybaf.func3, Ybaf.ntmps3
      go_wp2_with (go_at_call 5; refine (string_two _).mono ?_; rintro e w' ⟨rfl, rfl⟩)
      go_ret
      exact ⟨rfl, Below.refl _ _⟩
    · have g1 : (x == 1) = false := beq_eq_false_iff_ne.2 h1
      have g2 : (x == 2) = false := beq_eq_false_iff_ne.2 h2
      go_enter Ybaf.func3, Ybaf.ntmps3
      go_wp2_with (go_at_call 5; refine (string_other F x _ hF g1 g2).mono ?_; rintro e w' ⟨⟨s, rfl⟩, hb⟩)
      go_ret
      exact ⟨rfl, hb⟩
end Go.Proofs.YbulkeghoFmt
