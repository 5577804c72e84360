import Derived.Test.YbulkegjeFmtTake
import Derived.Laws.IdiomStrings
import Derived.Laws.BytesArg
import Derived.Laws.CopyRow
import Derived.LaidEqlPtr
namespace Go.Proofs.YbulkegjeFmt
open Go.RowKit Go.Deep Go.Extern.Stop Go.Stop Go.Extern

theorem info5_some : (Ybaf.prog.info? 5).isSome = true := by kernel_rfl
theorem info47_ok : (Ybaf.prog.info? 47).map (·.comparable) = some true := by kernel_rfl
theorem info49_some : (Ybaf.prog.info? 49).isSome = true := by kernel_rfl

/-- '&x[i] != &x[i]'. -/
theorem neq_byte (a : Addr) (w : World) : Sem.run Ybaf.prog (binOp BinOp.neq 38 (Value.pointer (some a)) (Value.pointer (some a))) w = .ok (.bool false) w := by
  obtain ⟨j, hj⟩ := Option.isSome_iff_exists.1 info5_some
  have h : ∀ d : Nat, (Op.equalIn (d + 1) 38 (.pointer (some a)) (.pointer (some a))).run Ybaf.prog w = .ok true w := fun d => by
    simp [Op.equalIn, run_underlying Ybaf.underlying38, sizeOf, typeInfo, hj, run_sameAddr_same]
  simp only [binOp]
  simp [Op.equal, Op.maxDepth, h 9999]

/-- 'r.err == pre', one error twice. -/
theorem eql_err (a : Addr) (w : World) : Sem.run Ybaf.prog (binOp BinOp.eql 27 (.iface 47 (.pointer (some a))) (.iface 47 (.pointer (some a)))) w = .ok (.bool true) w := by
  obtain ⟨i, hi, hc⟩ := Option.map_eq_some_iff.1 info47_ok
  obtain ⟨j, hj⟩ := Option.isSome_iff_exists.1 info49_some
  exact run_eql_iface_ptr_same w a Ybaf.underlying27 Ybaf.underlying47 hi hc hj

/-- What came in: a nil slice, or bytes from x on. -/
def Src (w : World) (ao : Option Addr) (n cap : Nat) (Z : Nat → Int) : Prop :=
  (∀ j, j < n → 0 ≤ Z j ∧ Z j ≤ 255) ∧ ((ao = none ∧ n = 0 ∧ cap = 0) ∨ ∃ x : Addr, ao = some x ∧ ∀ j, j < n → w.cell? (x.add j) = some (.int .u8 (Z j)))

def cellsOfZ (n : Nat) (Z : Nat → Int) : List Value := (List.range n).map (fun j => .int .u8 (Z j))
def bytesOfZ (n : Nat) (Z : Nat → Int) : List UInt8 := (List.range n).map (fun j => UInt8.ofNat (Z j).toNat)
theorem bytesOfZ_len (n : Nat) (Z : Nat → Int) : (bytesOfZ n Z).length = n := by simp [bytesOfZ]
theorem byte_back (z : Int) (h0 : 0 ≤ z) (h1 : z ≤ 255) : ((UInt8.ofNat z.toNat).toNat : Int) = z := by
  rw [UInt8.toNat_ofNat']
  have : z.toNat % 2 ^ 8 = z.toNat := Nat.mod_eq_of_lt (by omega)
  rw [this]; omega
theorem bytesOfZ_get (n : Nat) (Z : Nat → Int) (hz : ∀ j, j < n → 0 ≤ Z j ∧ Z j ≤ 255) (j : Nat) (hj : j < (bytesOfZ n Z).length) : (((bytesOfZ n Z)[j]).toNat : Int) = Z j := by
  have hjn : j < n := by rw [bytesOfZ_len] at hj; exact hj
  simp only [bytesOfZ, List.getElem_map, List.getElem_range]
  exact byte_back _ (hz j hjn).1 (hz j hjn).2

/-- 'copy(vc, v)' onto the row that 'make' has just laid. -/
theorem copy_made (w : World) (ao : Option Addr) (n cap : Nat) (Z : Nat → Int) (h : Src w ao n cap Z) : ∃ w2 : World,
    (∀ ty, (Builtin.copy_ #[22, 22] ty #[.slice (some ⟨w.heap.size, 0, none⟩) n n, .slice ao n cap]).run Ybaf.prog (w.alloc (.cells (madeCells #[.int .u8 0] n) 5)) = .ok (goInt n) w2) ∧
    w2.rowIs w.heap.size 5 n (fun j => .int .u8 (Z j)) ∧ Below w.heap.size w w2 ∧ w2.heap.size = w.heap.size + 1 := by
  have hnew := blk_alloc_new w (.cells (madeCells #[.int .u8 0] n) 5)
  have hbel : Below w.heap.size w (w.alloc (.cells (madeCells #[.int .u8 0] n) 5)) := (Below.refl _ _).alloc (Nat.le_refl _) _
  rcases h with ⟨hz, ⟨rfl, rfl, rfl⟩ | ⟨x, rfl, hc⟩⟩
  · refine ⟨_, fun ty => run_copy_nil Ybaf.prog _ 22 22 ty 5 _ 0 0 Ybaf.underlying22 (by kernel_rfl), ?_, hbel, by rw [nblk_alloc]⟩
    exact (World.rowIs_made w _ 0 5).congr (fun i hi => absurd hi (Nat.not_lt_zero _))
  · have hsrc : ∀ j v, (cellsOfZ n Z)[j]? = some v → (w.alloc (.cells (madeCells #[.int .u8 0] n) 5)).cell? (x.add j) = some v := fun j v hj => by
      have hjn : j < n := by
        obtain ⟨hlt, _⟩ := List.getElem?_eq_some_iff.1 hj
        simpa [cellsOfZ] using hlt
      simp [cellsOfZ, hjn] at hj
      subst hj
      have hb := World.block_lt_of_cell? _ _ (hc j hjn)
      rw [hbel.cell hb]
      exact hc j hjn
    have hlen : (cellsOfZ n Z).length = n := by simp [cellsOfZ]
    have hrun := fun ty => run_copy_row Ybaf.prog (w.alloc (.cells (madeCells #[.int .u8 0] n) 5)) 22 22 ty 5 w.heap.size 0 n n x n cap (madeCells #[.int .u8 0] n) 5 (cellsOfZ n Z) Ybaf.underlying22 (by kernel_rfl) hnew
      (by rw [hlen]; exact (Nat.min_self n).symm) hsrc (by rw [hlen, size_madeCells]; omega) (by intro v hv; simp [cellsOfZ] at hv; obtain ⟨j, _, rfl⟩ := hv; rfl)
    rw [hlen] at hrun
    have hm0 : (madeCells #[Value.int .u8 0] n).toList.drop (0 + n) = [] := List.drop_eq_nil_of_le (by simp [size_madeCells])
    simp only [List.take_zero, List.nil_append, hm0, List.append_nil] at hrun
    refine ⟨_, hrun, ?_, ?_, ?_⟩
    · refine ⟨(cellsOfZ n Z).toArray, ?_, by simpa using hlen, fun i hi => by simp [cellsOfZ, hi]⟩
      simp only [World.setRow, Array.getElem?_modify, hnew]
      simp
    · refine hbel.trans ⟨rfl, rfl, rfl, by simp [World.setRow], fun b hb => ?_⟩
      simp only [World.setRow, Array.getElem?_modify]
      rw [if_neg (by omega)]
    · simp [World.setRow]

/-- bytes.Equal of the copy and what came in. -/
theorem equal_same (V : Nat) (ao : Option Addr) (n cap : Nat) (Z : Nat → Int) (w0 w : World) (h : Src w0 ao n cap Z) (hbel : Below w0.heap.size w0 w) (hrow : w.rowIs V 5 n (fun j => .int .u8 (Z j))) :
    Calls Ybaf.prog 7 #[.slice (some ⟨V, 0, none⟩) n n, .slice ao n cap] w fun e w' => e = .returned (.bool true) ∧ w' = w := by
  have hlen := bytesOfZ_len n Z
  have e1 := run_convert_bytes_back (P := Ybaf.prog) w 22 9 5 ⟨V, 0, none⟩ n (bytesOfZ n Z) Ybaf.underlying22 Ybaf.underlying5 Ybaf.underlying9 (fun j hj => by
    rw [show Addr.add ⟨V, 0, none⟩ j = ⟨V, j, none⟩ from by by_cases e : j = 0 <;> simp [Addr.add, e], bytesOfZ_get n Z h.1 j hj]
    exact hrow.cell (by rw [hlen] at hj; exact hj))
  rw [hlen] at e1
  have e2 : (convert 22 9 (.slice ao n cap)).run Ybaf.prog w = .ok (.string ⟨(bytesOfZ n Z).toArray⟩) w := by
    rcases h with ⟨hz, ⟨rfl, rfl, rfl⟩ | ⟨x, rfl, hc⟩⟩
    · exact run_convert_bytes_nil w 22 5 Ybaf.underlying22 Ybaf.underlying5 0 0 9 Ybaf.underlying9
    · have := run_convert_bytes_back (P := Ybaf.prog) w 22 9 5 x cap (bytesOfZ n Z) Ybaf.underlying22 Ybaf.underlying5 Ybaf.underlying9 (fun j hj => by
        have hjn : j < n := by rw [hlen] at hj; exact hj
        rw [bytesOfZ_get n Z hz j hj, hbel.cell (World.block_lt_of_cell? _ _ (hc j hjn))]
        exact hc j hjn)
      rw [hlen] at this
      exact this
  generalize (⟨(bytesOfZ n Z).toArray⟩ : ByteArray) = s at e1 e2
  clear hlen h hrow hbel
  go_enter Ybaf.func7, Ybaf.ntmps7
  go_wp2
  go_ret
  exact ⟨by simp, rfl⟩
end Go.Proofs.YbulkegjeFmt
