import Derived.Test.YbulkegjeFmtRows
import Derived.WalkKit
import Derived.WalkSpells
import Derived.Below
import Derived.BigCall
import Derived.Stop.CallBack
import Derived.Stop.IfaceNil
namespace Go.Proofs.YbulkegjeFmt
open Go.RowKit Go.Extern.Stop Go.Stop Go.Extern

-- fmt.Sprintf: function 20: a plain stop; fmt.errorf: function 21: a stop that calls
theorem call20 (args : Array Value) (w : World) : (callFunc 20 args).run Ybaf.prog w = ((FmtStop.sprintf #[9, 54] #[9] args).run Ybaf.prog w).andThen fun v w' => .ok (.value v) w' :=
  run_callFunc_extern Ybaf.func20 (by kernel_rfl) (by kernel_rfl) (by kernel_rfl) (by kernel_rfl) args w
theorem call21 (args : Array Value) (w : World) : (callFunc 21 args).run Ybaf.prog w = (FmtCalls.errorf #[9, 54] #[27] args).run Ybaf.prog w :=
  run_callFunc_next Ybaf.func21 (by kernel_rfl) (by kernel_rfl) (by kernel_rfl) args w
theorem guardF (name : String) (w : World) : (FmtStop.guard name).run Ybaf.prog w = .ok () w := by kernel_rfl
theorem nextTurns : Extern.next FmtCalls.turnsRow = some (FmtCalls.begun #[] #[]) := by kernel_rfl
-- the format of count
theorem fmtC : FmtStop.printed? ⟨#[37, 100, 32, 37, 115, 115]⟩ 2 = some [(0, 100, false), (1, 115, false)] := by kernel_rfl
theorem fmtCr (w : World) : (FmtDoors.printed ⟨#[37, 100, 32, 37, 115, 115]⟩ 2).run Ybaf.prog w = .ok [(0, 100, false), (1, 115, false)] w := by kernel_rfl
-- the format of take, three operands
theorem fmtE : FmtStop.printed? ⟨#[37, 115, 32, 114, 117, 110, 115, 32, 112, 97, 115, 116, 32, 116, 104, 101, 32, 101, 110, 100, 58, 32, 37, 115, 44, 32, 37, 100, 32, 108, 101, 102, 116]⟩ 3 = some [(0, 115, false), (1, 115, false), (2, 100, false)] := by kernel_rfl
theorem fmtEr (w : World) : (FmtDoors.printed ⟨#[37, 115, 32, 114, 117, 110, 115, 32, 112, 97, 115, 116, 32, 116, 104, 101, 32, 101, 110, 100, 58, 32, 37, 115, 44, 32, 37, 100, 32, 108, 101, 102, 116]⟩ 3).run Ybaf.prog w = .ok [(0, 115, false), (1, 115, false), (2, 100, false)] w := by kernel_rfl
def shape3 : List UInt8 := [5, 3, 0, 0, 0, 0, 0, 0, 0, 105, 110, 116]
def shape9 : List UInt8 := [12, 6, 0, 0, 0, 0, 0, 0, 0, 115, 116, 114, 105, 110, 103]
theorem op3 (name : String) (x : Int) (w : World) : (FmtStop.operand name false 100 false (.iface 3 (.int .i64 x))).run Ybaf.prog w = .ok (shape3, Go.Extern.Stop.digits 8 (x % 2 ^ 64).toNat) w := by kernel_rfl
theorem op9 (name : String) (x : ByteArray) (w : World) : (FmtStop.operand name false 115 false (.iface 9 (.string x))).run Ybaf.prog w = .ok (shape9, FmtStop.pack x.data.toList) w := by kernel_rfl
theorem op3w (name : String) (x : Int) (w : World) : (FmtStop.operand name true 100 false (.iface 3 (.int .i64 x))).run Ybaf.prog w = .ok (shape3, Go.Extern.Stop.digits 8 (x % 2 ^ 64).toNat) w := by kernel_rfl
theorem op9w (name : String) (x : ByteArray) (w : World) : (FmtStop.operand name true 115 false (.iface 9 (.string x))).run Ybaf.prog w = .ok (shape9, FmtStop.pack x.data.toList) w := by kernel_rfl
theorem act3w (name : String) (x : Value) (w : World) : (FmtCalls.act name true 100 false (.iface 3 x)).run Ybaf.prog w = .ok (.closed true) w := by kernel_rfl
theorem act9w (name : String) (x : Value) (w : World) : (FmtCalls.act name true 115 false (.iface 9 x)).run Ybaf.prog w = .ok (.closed true) w := by kernel_rfl
theorem ptr47 (w : World) : (FmtStop.ptrTo "errors.errorString").run Ybaf.prog w = .ok 47 w := by kernel_rfl
theorem elem47 (w : World) : (elemOf 47).run Ybaf.prog w = .ok 49 w := by kernel_rfl

/-- 'count(1, "octet")'. -/
theorem count_one (w : World) : Calls Ybaf.prog 15 #[.int .i64 1, .string ⟨#[111, 99, 116, 101, 116]⟩] w fun e w' => (∃ s, e = .returned (.string s)) ∧ w' = w := by
  go_enter Ybaf.func15, Ybaf.ntmps15
  go_wp2
  go_ret
  exact ⟨⟨_, rfl⟩, rfl⟩

theorem count_other (F : Interp) (n : Int) (w : World) (hF : F.answers w.tape) (h1 : (n == 1) = false) :
    Calls Ybaf.prog 15 #[.int .i64 n, .string ⟨#[111, 99, 116, 101, 116]⟩] w fun e w' => (∃ s, e = .returned (.string s)) ∧ ∃ o, w' = (w.alloc o).drew := by
  have hF' := answers_open hF
  have ho3 := op3
  have ho9 := op9
  have hc := call20
  have hg := guardF
  have hf := fmtC
  have hfr := fmtCr
  go_enter Ybaf.func15, Ybaf.ntmps15
  go_wp2
  go_ret
  exact ⟨⟨_, rfl⟩, _, rfl⟩

set_option maxHeartbeats 800000 in
/-- fmt.Errorf at the three operands: a new error, whatever its text. -/
theorem errorf_any (F : Interp) (s t : ByteArray) (p : Int) (blk : Nat) (w : World) (hF : F.answers w.tape)
    (hc0 : w.cell? ⟨blk, 0, none⟩ = some (.iface 9 (.string s))) (hc1 : w.cell? ⟨blk, 1, none⟩ = some (.iface 9 (.string t))) (hc2 : w.cell? ⟨blk, 2, none⟩ = some (.iface 3 (.int .i64 p))) :
    Calls Ybaf.prog 19 #[.string ⟨#[37, 115, 32, 114, 117, 110, 115, 32, 112, 97, 115, 116, 32, 116, 104, 101, 32, 101, 110, 100, 58, 32, 37, 115, 44, 32, 37, 100, 32, 108, 101, 102, 116]⟩, .slice (some ⟨blk, 0, none⟩) 3 3] w fun e w' =>
      e = .returned (.iface 47 (.pointer (some ⟨w.heap.size, 0, none⟩))) ∧ ∃ o, w' = (w.alloc o).drew := by
  have hF' := answers_open hF
  have ho3 := op3w
  have ho9 := op9w
  have ha3 := act3w
  have ha9 := act9w
  have hc := call21
  have hg := guardF
  have hf := fmtE
  have hfr := fmtEr
  have hp := ptr47
  have he := elem47
  go_enter Ybaf.func19, Ybaf.ntmps19
  go_wp2
  apply rows_value nextTurns
  case hr =>
    go_simp
    exact ⟨rfl, rfl⟩
  case h =>
    go_wp2
    go_ret
    exact ⟨rfl, _, rfl⟩
end Go.Proofs.YbulkegjeFmt
