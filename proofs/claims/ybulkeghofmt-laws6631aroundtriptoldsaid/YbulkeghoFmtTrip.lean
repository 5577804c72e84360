import Derived.Test.YbulkeghoFmtFmt
import Derived.Laws.IdiomStrings
namespace Go.Proofs.YbulkeghoFmt
open Go.RowKit Go.Extern.Stop Go.Stop Go.Extern

/-- 'UnmarshalText' at "whole". -/
theorem un_one (b : Nat) (u : Value) (a : Addr) (cap : Nat) (w : World) (hu : w.cell? ⟨b, 0, none⟩ = some u) (hz : w.frozen? ⟨b, 0, none⟩ = false)
    (hc : ∀ j (hj : j < [(119 : UInt8), 104, 111, 108, 101].length), w.cell? (a.add j) = some (.int .u8 (([(119 : UInt8), 104, 111, 108, 101][j]).toNat : Int))) :
    Calls Ybaf.prog 6 #[.pointer (some ⟨b, 0, none⟩), .slice (some a) 5 cap] w fun e w' => e = .returned .nilIface ∧ w' = w.setCell ⟨b, 0, none⟩ (.int .i64 1) := by
  have hb : (convert 28 9 (.slice (some a) 5 cap)).run Ybaf.prog w = .ok (.string ⟨#[119, 104, 111, 108, 101]⟩) w :=
    run_convert_bytes_back w 28 9 5 a cap [119, 104, 111, 108, 101] Ybaf.underlying28 Ybaf.underlying5 Ybaf.underlying9 hc
  clear hc
  go_enter Ybaf.func6, Ybaf.ntmps6
  go_wp2_with fail
  go_ret
  exact ⟨rfl, rfl⟩

/-- .. and at "fragmented". -/
theorem un_two (b : Nat) (u : Value) (a : Addr) (cap : Nat) (w : World) (hu : w.cell? ⟨b, 0, none⟩ = some u) (hz : w.frozen? ⟨b, 0, none⟩ = false)
    (hc : ∀ j (hj : j < [(102 : UInt8), 114, 97, 103, 109, 101, 110, 116, 101, 100].length), w.cell? (a.add j) = some (.int .u8 (([(102 : UInt8), 114, 97, 103, 109, 101, 110, 116, 101, 100][j]).toNat : Int))) :
    Calls Ybaf.prog 6 #[.pointer (some ⟨b, 0, none⟩), .slice (some a) 10 cap] w fun e w' => e = .returned .nilIface ∧ w' = w.setCell ⟨b, 0, none⟩ (.int .i64 2) := by
  have hb : (convert 28 9 (.slice (some a) 10 cap)).run Ybaf.prog w = .ok (.string ⟨#[102, 114, 97, 103, 109, 101, 110, 116, 101, 100]⟩) w :=
    run_convert_bytes_back w 28 9 5 a cap [102, 114, 97, 103, 109, 101, 110, 116, 101, 100] Ybaf.underlying28 Ybaf.underlying5 Ybaf.underlying9 hc
  clear hc
  go_enter Ybaf.func6, Ybaf.ntmps6
  go_wp2_with fail
  go_ret
  exact ⟨rfl, rfl⟩

/-- What '[]byte(s)' leaves, told by its cells. -/
theorem bytes_made (s : ByteArray) (w : World) : ∃ (cap : Nat) (C : Array Value),
    (convert 9 28 (.string s)).run Ybaf.prog w = .ok (.slice (some ⟨w.heap.size, 0, none⟩) s.size cap) (w.drew.alloc (.cells C 5 (C.size, C.size + 1))) ∧
    ∀ j (hj : j < s.data.size), C[j]? = some (.int .u8 (s.data[j].toNat : Int)) :=
  ⟨_, _, run_bytes_of_string w 9 28 5 s Ybaf.underlying9 Ybaf.underlying28 Ybaf.underlying5, fun j hj => bytesRow_at s _ j hj⟩

theorem row_cells (w : World) (C : Array Value) (l : List UInt8) (hC : ∀ j (hj : j < l.length), C[j]? = some (.int .u8 (l[j].toNat : Int))) :
    ∀ j (hj : j < l.length), (w.alloc (.cells C 5 (C.size, C.size + 1))).drew.cell? (Addr.add ⟨w.heap.size, 0, none⟩ j) = some (.int .u8 (l[j].toNat : Int)) := by
  intro j hj
  rw [show Addr.add ⟨w.heap.size, 0, none⟩ j = ⟨w.heap.size, j, none⟩ from by by_cases e : j = 0 <;> simp [Addr.add, e]]
  rw [World.cell?_drew, World.cell?_alloc_mark]
  exact hC j hj

set_option maxRecDepth 100000 in
theorem trip_even (sel start : Int) (w : World) (h0 : 0 ≤ sel) (h1 : sel ≤ 255) (hp : sel % 2 = 0) :
    Calls Ybaf.prog 4 #[.int .u8 sel, .int .i64 start] w fun e w' => e = .returned (.bool true) ∧ Below w.heap.size w w' := by
  obtain ⟨cap, C, hcv, hC⟩ := bytes_made ⟨#[119, 104, 111, 108, 101]⟩ (w.alloc (.cells #[.int .i64 start] 22))
  have hcells := row_cells (w.alloc (.cells #[.int .i64 start] 22)) C [119, 104, 111, 108, 101] hC
  rw [show ((w.alloc (.cells #[.int .i64 start] 22)).heap.size) = w.heap.size + 1 from by simp] at hcells hcv
  clear hC
  have Hc := (show Hid _ from hcells)
  clear hcells
  have e1 : ((w.alloc (.cells #[.int .i64 start] 22)).alloc (.cells C 5 (C.size, C.size + 1))).drew.cell? ⟨w.heap.size, 0, none⟩ = some (.int .i64 start) := by
    rw [World.cell?_drew, World.cell?_alloc_past _ _ _ (by simp), World.cell?_alloc_at _ _ _ _ rfl]; rfl
  have e2 : ((w.alloc (.cells #[.int .i64 start] 22)).alloc (.cells C 5 (C.size, C.size + 1))).drew.frozen? ⟨w.heap.size, 0, none⟩ = false := by
    rw [World.frozen?_drew, World.frozen?_alloc_past _ _ _ (by simp), World.frozen?_alloc_at _ _ _ _ rfl]
  have E1 := (show Hid _ from e1)
  have E2 := (show Hid _ from e2)
  clear e1 e2
  go_enter Ybaf.func4, Ybaf.ntmps4
  go_wp2_with (go_at_call 5; refine (string_one _).mono ?_; rintro e w' ⟨rfl, rfl⟩)
  refine (un_one _ _ _ _ _ E1.out E2.out Hc.out).mono ?_
  rintro e w2 ⟨rfl, rfl⟩
  go_wp2
  go_ret
  exact ⟨rfl, (((Below.refl _ _).alloc (Nat.le_refl _) _).alloc (by simp) _).drew⟩
set_option maxRecDepth 100000 in
theorem trip_odd (sel start : Int) (w : World) (h0 : 0 ≤ sel) (h1 : sel ≤ 255) (hp : sel % 2 = 1) :
    Calls Ybaf.prog 4 #[.int .u8 sel, .int .i64 start] w fun e w' => e = .returned (.bool true) ∧ Below w.heap.size w w' := by
  obtain ⟨cap, C, hcv, hC⟩ := bytes_made ⟨#[102, 114, 97, 103, 109, 101, 110, 116, 101, 100]⟩ (w.alloc (.cells #[.int .i64 start] 22))
  have hcells := row_cells (w.alloc (.cells #[.int .i64 start] 22)) C [102, 114, 97, 103, 109, 101, 110, 116, 101, 100] hC
  rw [show ((w.alloc (.cells #[.int .i64 start] 22)).heap.size) = w.heap.size + 1 from by simp] at hcells hcv
  clear hC
  have Hc := (show Hid _ from hcells)
  clear hcells
  have e1 : ((w.alloc (.cells #[.int .i64 start] 22)).alloc (.cells C 5 (C.size, C.size + 1))).drew.cell? ⟨w.heap.size, 0, none⟩ = some (.int .i64 start) := by
    rw [World.cell?_drew, World.cell?_alloc_past _ _ _ (by simp), World.cell?_alloc_at _ _ _ _ rfl]; rfl
  have e2 : ((w.alloc (.cells #[.int .i64 start] 22)).alloc (.cells C 5 (C.size, C.size + 1))).drew.frozen? ⟨w.heap.size, 0, none⟩ = false := by
    rw [World.frozen?_drew, World.frozen?_alloc_past _ _ _ (by simp), World.frozen?_alloc_at _ _ _ _ rfl]
  have E1 := (show Hid _ from e1)
  have E2 := (show Hid _ from e2)
  clear e1 e2
  go_enter Ybaf.func4, Ybaf.ntmps4
  go_wp2_with (go_at_call 5; refine (string_two _).mono ?_; rintro e w' ⟨rfl, rfl⟩)
  refine (un_two _ _ _ _ _ E1.out E2.out Hc.out).mono ?_
  rintro e w2 ⟨rfl, rfl⟩
  go_wp2
  go_ret
  exact ⟨rfl, (((Below.refl _ _).alloc (Nat.le_refl _) _).alloc (by simp) _).drew⟩

theorem trip_any (sel start : Int) (w : World) (h0 : 0 ≤ sel) (h1 : sel ≤ 255) :
    Calls Ybaf.prog 4 #[.int .u8 sel, .int .i64 start] w fun e w' => e = .returned (.bool true) ∧ Below w.heap.size w w' := by
  rcases (by omega : sel % 2 = 0 ∨ sel % 2 = 1) with h | h
  · exact trip_even sel start w h0 h1 h
  · exact trip_odd sel start w h0 h1 h
end Go.Proofs.YbulkeghoFmt
