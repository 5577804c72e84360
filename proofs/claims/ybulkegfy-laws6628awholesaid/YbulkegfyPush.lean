import Derived.Test.YbulkegfyBlocks
namespace Go.Proofs.Ybulkegfy
open Go.RowKit Go.Deep

theorem push_bare (q b : Nat) (len : Int) (sp : Option Addr) (n : Int) (ad : Bool) (pv nx : Option Addr) (w : World)
    (hqb : q ≠ b) (hq : Qu w q none none len sp) (hw : Wt w b n ad pv nx) :
    Calls Yba.prog 6 #[.pointer (some ⟨q, 0, none⟩), .pointer (some ⟨b, 0, none⟩)] w fun e w' => e = .returned (.tuple #[]) ∧
      w' = (((w.setCell ⟨b, 3, none⟩ (.pointer none)).setCell ⟨q, 0, none⟩ (.pointer (some ⟨b, 0, none⟩))).setCell ⟨q, 1, none⟩ (.pointer (some ⟨b, 0, none⟩))).setCell ⟨q, 2, none⟩ (.int .i64 (wrap64 (len + 1))) := by
  have q1 := hq.c1
  have b3 := hw.c3
  have z3 := hw.fz 3
  have hq1 := hq.other (a := ⟨b, 3, none⟩) hqb (.pointer none)
  have r1 := hq1.c1
  have r0 := hq1.c0
  have y0 := hq1.fz 0
  have hq2 := hq1.set0 (some ⟨b, 0, none⟩)
  have s1 := hq2.c1
  have x1 := hq2.fz 1
  have hq3 := hq2.set1 (some ⟨b, 0, none⟩)
  have t2 := hq3.c2
  have v2 := hq3.fz 2
  go_enter Yba.func6, Yba.ntmps6
  go_wp2_with (go_at_call 10; refine (add_any _ _ _ _ _ t2 v2).mono ?_; rintro e w' ⟨rfl, rfl⟩)
  first | go_end0 | refine bodyPost_ret (results_none rfl _ _ _) rfl ?_
  exact ⟨rfl, rfl⟩

theorem push_tail (q b t : Nat) (hd : Option Addr) (len : Int) (sp : Option Addr) (n : Int) (ad : Bool) (pv nx : Option Addr) (nt : Int) (adt : Bool) (pvt nxt : Option Addr) (w : World)
    (hqb : q ≠ b) (hqt : q ≠ t) (htb : t ≠ b) (hq : Qu w q hd (some ⟨t, 0, none⟩) len sp) (hw : Wt w b n ad pv nx) (ht : Wt w t nt adt pvt nxt) :
    Calls Yba.prog 6 #[.pointer (some ⟨q, 0, none⟩), .pointer (some ⟨b, 0, none⟩)] w fun e w' => e = .returned (.tuple #[]) ∧
      w' = (((w.setCell ⟨b, 3, none⟩ (.pointer (some ⟨t, 0, none⟩))).setCell ⟨t, 4, none⟩ (.pointer (some ⟨b, 0, none⟩))).setCell ⟨q, 1, none⟩ (.pointer (some ⟨b, 0, none⟩))).setCell ⟨q, 2, none⟩ (.int .i64 (wrap64 (len + 1))) := by
  have q1 := hq.c1
  have b3 := hw.c3
  have z3 := hw.fz 3
  have hq1 := hq.other (a := ⟨b, 3, none⟩) hqb (.pointer (some ⟨t, 0, none⟩))
  have r1 := hq1.c1
  have ht1 := ht.other (a := ⟨b, 3, none⟩) htb (.pointer (some ⟨t, 0, none⟩))
  have r4 := ht1.c4
  have y4 := ht1.fz 4
  have hq2 := hq1.other (a := ⟨t, 4, none⟩) hqt (.pointer (some ⟨b, 0, none⟩))
  have s1 := hq2.c1
  have x1 := hq2.fz 1
  have hq3 := hq2.set1 (some ⟨b, 0, none⟩)
  have t2 := hq3.c2
  have v2 := hq3.fz 2
  go_enter Yba.func6, Yba.ntmps6
  go_wp2_with (go_at_call 10; refine (add_any _ _ _ _ _ t2 v2).mono ?_; rintro e w' ⟨rfl, rfl⟩)
  first | go_end0 | refine bodyPost_ret (results_none rfl _ _ _) rfl ?_
  exact ⟨rfl, rfl⟩
end Go.Proofs.Ybulkegfy
