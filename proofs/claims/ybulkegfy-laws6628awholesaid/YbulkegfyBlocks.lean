import Derived.Test.YbulkegfyAtoms
import Derived.Deep.OwnRows
namespace Go.Proofs.Ybulkegfy
open Go.RowKit Go.Deep

/-- Block b is a waiter. -/
def Wt (w : World) (b : Nat) (n : Int) (ad : Bool) (pv nx : Option Addr) : Prop :=
  w.heap[b]? = some (.cells #[.int .i64 n, .bool ad, .chan none, .pointer pv, .pointer nx] 27 (0, 0))

/-- Block b is a waitQueue. -/
def Qu (w : World) (b : Nat) (hd tl : Option Addr) (len : Int) (sp : Option Addr) : Prop :=
  w.heap[b]? = some (.cells #[.pointer hd, .pointer tl, .int .i64 len, .pointer sp] 34 (0, 0))

section
variable {w : World} {b : Nat} {n : Int} {ad : Bool} {pv nx : Option Addr} {hd tl : Option Addr} {len : Int} {sp : Option Addr}

theorem Wt.c0 (h : Wt w b n ad pv nx) : w.cell? ⟨b, 0, none⟩ = some (.int .i64 n) := by unfold Wt at h; simp [World.cell?, h]
theorem Wt.c1 (h : Wt w b n ad pv nx) : w.cell? ⟨b, 1, none⟩ = some (.bool ad) := by unfold Wt at h; simp [World.cell?, h]
theorem Wt.c2 (h : Wt w b n ad pv nx) : w.cell? ⟨b, 2, none⟩ = some (.chan none) := by unfold Wt at h; simp [World.cell?, h]
theorem Wt.c3 (h : Wt w b n ad pv nx) : w.cell? ⟨b, 3, none⟩ = some (.pointer pv) := by unfold Wt at h; simp [World.cell?, h]
theorem Wt.c4 (h : Wt w b n ad pv nx) : w.cell? ⟨b, 4, none⟩ = some (.pointer nx) := by unfold Wt at h; simp [World.cell?, h]
theorem Wt.fz (h : Wt w b n ad pv nx) (i : Nat) : w.frozen? ⟨b, i, none⟩ = false := by unfold Wt at h; simp [World.frozen?, h]
theorem Wt.lt (h : Wt w b n ad pv nx) : b < w.heap.size := (Array.getElem?_eq_some_iff.1 h).1

theorem Qu.c0 (h : Qu w b hd tl len sp) : w.cell? ⟨b, 0, none⟩ = some (.pointer hd) := by unfold Qu at h; simp [World.cell?, h]
theorem Qu.c1 (h : Qu w b hd tl len sp) : w.cell? ⟨b, 1, none⟩ = some (.pointer tl) := by unfold Qu at h; simp [World.cell?, h]
theorem Qu.c2 (h : Qu w b hd tl len sp) : w.cell? ⟨b, 2, none⟩ = some (.int .i64 len) := by unfold Qu at h; simp [World.cell?, h]
theorem Qu.c3 (h : Qu w b hd tl len sp) : w.cell? ⟨b, 3, none⟩ = some (.pointer sp) := by unfold Qu at h; simp [World.cell?, h]
theorem Qu.fz (h : Qu w b hd tl len sp) (i : Nat) : w.frozen? ⟨b, i, none⟩ = false := by unfold Qu at h; simp [World.frozen?, h]
theorem Qu.lt (h : Qu w b hd tl len sp) : b < w.heap.size := (Array.getElem?_eq_some_iff.1 h).1

theorem Wt.alloc (h : Wt w b n ad pv nx) (o : Obj) : Wt (w.alloc o) b n ad pv nx := (blk_alloc_lt _ _ _ h.lt).trans h
theorem Qu.alloc (h : Qu w b hd tl len sp) (o : Obj) : Qu (w.alloc o) b hd tl len sp := (blk_alloc_lt _ _ _ h.lt).trans h
theorem Wt.drew (h : Wt w b n ad pv nx) : Wt w.drew b n ad pv nx := h
theorem Qu.drew (h : Qu w b hd tl len sp) : Qu w.drew b hd tl len sp := h
theorem Wt.other (h : Wt w b n ad pv nx) {a : Addr} (ha : b ≠ a.block) (v : Value) : Wt (w.setCell a v) b n ad pv nx := (blk_setCell_other _ _ _ _ ha).trans h
theorem Qu.other (h : Qu w b hd tl len sp) {a : Addr} (ha : b ≠ a.block) (v : Value) : Qu (w.setCell a v) b hd tl len sp := (blk_setCell_other _ _ _ _ ha).trans h
theorem Wt.new (w : World) (n : Int) (ad : Bool) (pv nx : Option Addr) : Wt (w.alloc (.cells #[.int .i64 n, .bool ad, .chan none, .pointer pv, .pointer nx] 27)) w.heap.size n ad pv nx := blk_alloc_new _ _
theorem Qu.new (w : World) (hd tl : Option Addr) (len : Int) (sp : Option Addr) : Qu (w.alloc (.cells #[.pointer hd, .pointer tl, .int .i64 len, .pointer sp] 34)) w.heap.size hd tl len sp := blk_alloc_new _ _
theorem Wt.set1 (h : Wt w b n ad pv nx) (x : Bool) : Wt (w.setCell ⟨b, 1, none⟩ (.bool x)) b n x pv nx := by
  unfold Wt at h ⊢; simp [World.setCell, Array.getElem?_modify, h]
theorem Wt.set3 (h : Wt w b n ad pv nx) (x : Option Addr) : Wt (w.setCell ⟨b, 3, none⟩ (.pointer x)) b n ad x nx := by
  unfold Wt at h ⊢; simp [World.setCell, Array.getElem?_modify, h]
theorem Wt.set4 (h : Wt w b n ad pv nx) (x : Option Addr) : Wt (w.setCell ⟨b, 4, none⟩ (.pointer x)) b n ad pv x := by
  unfold Wt at h ⊢; simp [World.setCell, Array.getElem?_modify, h]
theorem Qu.set0 (h : Qu w b hd tl len sp) (x : Option Addr) : Qu (w.setCell ⟨b, 0, none⟩ (.pointer x)) b x tl len sp := by
  unfold Qu at h ⊢; simp [World.setCell, Array.getElem?_modify, h]
theorem Qu.set1 (h : Qu w b hd tl len sp) (x : Option Addr) : Qu (w.setCell ⟨b, 1, none⟩ (.pointer x)) b hd x len sp := by
  unfold Qu at h ⊢; simp [World.setCell, Array.getElem?_modify, h]
theorem Qu.set2 (h : Qu w b hd tl len sp) (x : Int) : Qu (w.setCell ⟨b, 2, none⟩ (.int .i64 x)) b hd tl x sp := by
  unfold Qu at h ⊢; simp [World.setCell, Array.getElem?_modify, h]
theorem Qu.set3 (h : Qu w b hd tl len sp) (x : Option Addr) : Qu (w.setCell ⟨b, 3, none⟩ (.pointer x)) b hd tl len x := by
  unfold Qu at h ⊢; simp [World.setCell, Array.getElem?_modify, h]
end
end Go.Proofs.Ybulkegfy
