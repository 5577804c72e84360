import Derived.Test.YbulkegfyBlocks
import Derived.LaidEqlPtr
namespace Go.Proofs.Ybulkegfy
open Go.RowKit Go.Deep
theorem info27_some : (Yba.prog.info? 27).isSome = true := by kernel_rfl
theorem neq_self (o : Option Addr) (w : World) : Sem.run Yba.prog (binOp BinOp.neq 24 (Value.pointer o) (Value.pointer o)) w = .ok (.bool false) w := by
  cases o with
  | none => exact run_neq_pointer_nil w 24 none (by kernel_rfl)
  | some a =>
    obtain ⟨j, hj⟩ := Option.isSome_iff_exists.1 info27_some
    have h : ∀ d : Nat, (Op.equalIn (d + 1) 24 (.pointer (some a)) (.pointer (some a))).run Yba.prog w = .ok true w := fun d => by
      simp [Op.equalIn, run_underlying Yba.underlying24, sizeOf, typeInfo, hj, run_sameAddr_same]
    simp only [binOp]
    simp [Op.equal, Op.maxDepth, h 9999]
theorem neq_chan (w : World) : Sem.run Yba.prog (binOp BinOp.neq 25 (Value.chan none) (Value.chan none)) w = .ok (.bool false) w := by
  have h : ∀ d : Nat, (Op.equalIn (d + 1) 25 (.chan none) (.chan none)).run Yba.prog w = .ok true w := fun d => by
    simp [Op.equalIn, run_underlying Yba.underlying25]
  simp only [binOp]
  simp [Op.equal, Op.maxDepth, h 9999]
end Go.Proofs.Ybulkegfy
