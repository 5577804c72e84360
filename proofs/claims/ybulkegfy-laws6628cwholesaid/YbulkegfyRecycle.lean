import Derived.Test.YbulkegfyBlocks
namespace Go.Proofs.Ybulkegfy
open Go.RowKit Go.Deep

theorem recycle_keep (q : Nat) (pw : Value) (tl : Option Addr) (len : Int) (s : Addr) (w : World) (hq : Qu w q none tl len (some s)) :
    Calls Yba.prog 8 #[.pointer (some ⟨q, 0, none⟩), pw] w fun e w' => e = .returned (.tuple #[]) ∧ w' = w := by
  have q0 := hq.c0
  have q3 := hq.c3
  go_enter Yba.func8, Yba.ntmps8
  go_wp2
  first | go_end0 | refine bodyPost_ret (results_none rfl _ _ _) rfl ?_
  exact ⟨rfl, rfl⟩

theorem recycle_head (q b : Nat) (ha : Addr) (tl : Option Addr) (len : Int) (sp : Option Addr) (n : Int) (ad : Bool) (pv nx : Option Addr) (w : World)
    (hqb : q ≠ b) (hq : Qu w q (some ha) tl len sp) (hw : Wt w b n ad pv nx) :
    Calls Yba.prog 8 #[.pointer (some ⟨q, 0, none⟩), .pointer (some ⟨b, 0, none⟩)] w fun e w' => e = .returned (.tuple #[]) ∧
      w' = ((w.setCell ⟨b, 1, none⟩ (.bool false)).setCell ⟨b, 4, none⟩ (.pointer sp)).setCell ⟨q, 3, none⟩ (.pointer (some ⟨b, 0, none⟩)) := by
  have q0 := hq.c0
  have q3 := (hq.other (a := ⟨b, 1, none⟩) hqb (.bool false)).c3
  have b1 := hw.c1
  have z1 := hw.fz 1
  have b4 := (hw.set1 false).c4
  have z4 := (hw.set1 false).fz 4
  have r3 := ((hq.other (a := ⟨b, 1, none⟩) hqb (.bool false)).other (a := ⟨b, 4, none⟩) hqb (.pointer sp)).c3
  have y3 := ((hq.other (a := ⟨b, 1, none⟩) hqb (.bool false)).other (a := ⟨b, 4, none⟩) hqb (.pointer sp)).fz 3
  go_enter Yba.func8, Yba.ntmps8
  go_wp2
  first | go_end0 | refine bodyPost_ret (results_none rfl _ _ _) rfl ?_
  exact ⟨rfl, rfl⟩

theorem recycle_bare (q b : Nat) (tl : Option Addr) (len : Int) (n : Int) (ad : Bool) (pv nx : Option Addr) (w : World)
    (hqb : q ≠ b) (hq : Qu w q none tl len none) (hw : Wt w b n ad pv nx) :
    Calls Yba.prog 8 #[.pointer (some ⟨q, 0, none⟩), .pointer (some ⟨b, 0, none⟩)] w fun e w' => e = .returned (.tuple #[]) ∧
      w' = ((w.setCell ⟨b, 1, none⟩ (.bool false)).setCell ⟨b, 4, none⟩ (.pointer none)).setCell ⟨q, 3, none⟩ (.pointer (some ⟨b, 0, none⟩)) := by
  have q0 := hq.c0
  have q3' := hq.c3
  have q3 := (hq.other (a := ⟨b, 1, none⟩) hqb (.bool false)).c3
  have b1 := hw.c1
  have z1 := hw.fz 1
  have b4 := (hw.set1 false).c4
  have z4 := (hw.set1 false).fz 4
  have r3 := ((hq.other (a := ⟨b, 1, none⟩) hqb (.bool false)).other (a := ⟨b, 4, none⟩) hqb (.pointer none)).c3
  have y3 := ((hq.other (a := ⟨b, 1, none⟩) hqb (.bool false)).other (a := ⟨b, 4, none⟩) hqb (.pointer none)).fz 3
  go_enter Yba.func8, Yba.ntmps8
  go_wp2
  first | go_end0 | refine bodyPost_ret (results_none rfl _ _ _) rfl ?_
  exact ⟨rfl, rfl⟩
end Go.Proofs.Ybulkegfy
