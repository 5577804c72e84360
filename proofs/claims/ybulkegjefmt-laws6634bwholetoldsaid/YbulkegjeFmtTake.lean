import Derived.Test.YbulkegjeFmtFmt
import Derived.Deep.OwnRows
import Derived.Deep.RegionHeld
import Derived.Deep.QuietTactic
import Derived.BigQuiet
import Derived.Deep.Cut
import Derived.Deep.CutRange
import Derived.WalkSmall
namespace Go.Proofs.YbulkegjeFmt
open Go.RowKit Go.Deep Go.Extern.Stop Go.Stop Go.Extern
set_option linter.unusedVariables false

theorem Ybaf.info5 : (Ybaf.prog.info? 5).map (fun i => (i.zero, i.size, i.bytes)) = some (some (.int .u8 0), 1, 1) := by kernel_rfl

/-- Block R is a reader over the whole row V of n bytes. -/
def Rd (w : World) (R V n : Nat) (i : Int) (er : Value) (ea : Int) : Prop :=
  w.heap[R]? = some (.cells #[.slice (some ⟨V, 0, none⟩) n n, .int .i64 i, er, .int .i64 ea] 36 (0, 0))
section
variable {w : World} {R V n : Nat} {i : Int} {er : Value} {ea : Int}
theorem Rd.c0 (h : Rd w R V n i er ea) : w.cell? ⟨R, 0, none⟩ = some (.slice (some ⟨V, 0, none⟩) n n) := by unfold Rd at h; simp [World.cell?, h]
theorem Rd.c1 (h : Rd w R V n i er ea) : w.cell? ⟨R, 1, none⟩ = some (.int .i64 i) := by unfold Rd at h; simp [World.cell?, h]
theorem Rd.c2 (h : Rd w R V n i er ea) : w.cell? ⟨R, 2, none⟩ = some er := by unfold Rd at h; simp [World.cell?, h]
theorem Rd.c3 (h : Rd w R V n i er ea) : w.cell? ⟨R, 3, none⟩ = some (.int .i64 ea) := by unfold Rd at h; simp [World.cell?, h]
theorem Rd.fz (h : Rd w R V n i er ea) (k : Nat) : w.frozen? ⟨R, k, none⟩ = false := by unfold Rd at h; simp [World.frozen?, h]
theorem Rd.lt (h : Rd w R V n i er ea) : R < w.heap.size := (Array.getElem?_eq_some_iff.1 h).1
theorem Rd.alloc (h : Rd w R V n i er ea) (o : Obj) : Rd (w.alloc o) R V n i er ea := (blk_alloc_lt _ _ _ h.lt).trans h
theorem Rd.drew (h : Rd w R V n i er ea) : Rd w.drew R V n i er ea := h
theorem Rd.other (h : Rd w R V n i er ea) {a : Addr} (ha : R ≠ a.block) (v : Value) : Rd (w.setCell a v) R V n i er ea := (blk_setCell_other _ _ _ _ ha).trans h
theorem Rd.set1 (h : Rd w R V n i er ea) (x : Int) : Rd (w.setCell ⟨R, 1, none⟩ (.int .i64 x)) R V n x er ea := by
  unfold Rd at h ⊢; simp [World.setCell, Array.getElem?_modify, h]
theorem Rd.set2 (h : Rd w R V n i er ea) (x : Value) : Rd (w.setCell ⟨R, 2, none⟩ x) R V n i x ea := by
  unfold Rd at h ⊢; simp [World.setCell, Array.getElem?_modify, h]
theorem Rd.set3 (h : Rd w R V n i er ea) (x : Int) : Rd (w.setCell ⟨R, 3, none⟩ (.int .i64 x)) R V n i er x := by
  unfold Rd at h ⊢; simp [World.setCell, Array.getElem?_modify, h]
end

/-- 'fail' where an error is kept: nothing. -/
theorem fail_kept (R V n : Nat) (i ea at' : Int) (et : TypeId) (ev : Value) (f a : Value) (w : World) (h : Rd w R V n i (.iface et ev) ea) :
    Calls Ybaf.prog 14 #[.pointer (some ⟨R, 0, none⟩), .int .i64 at', f, a] w fun e w' => e = .returned (.tuple #[]) ∧ w' = w := by
  have r2 := h.c2
  go_enter Ybaf.func14, Ybaf.ntmps14
  go_wp2
  first | go_end0 | refine bodyPost_ret (results_none rfl _ _ _) rfl ?_
  exact ⟨rfl, rfl⟩

/-- 'fail' where none is: the new error and the place are stored. -/
theorem fail_new (F : Interp) (R V n : Nat) (i ea at' : Int) (s t : ByteArray) (p : Int) (blk : Nat) (w : World) (hF : F.answers w.tape) (h : Rd w R V n i .nilIface ea)
    (hc0 : w.cell? ⟨blk, 0, none⟩ = some (.iface 9 (.string s))) (hc1 : w.cell? ⟨blk, 1, none⟩ = some (.iface 9 (.string t))) (hc2 : w.cell? ⟨blk, 2, none⟩ = some (.iface 3 (.int .i64 p))) :
    Calls Ybaf.prog 14 #[.pointer (some ⟨R, 0, none⟩), .int .i64 at', .string ⟨#[37, 115, 32, 114, 117, 110, 115, 32, 112, 97, 115, 116, 32, 116, 104, 101, 32, 101, 110, 100, 58, 32, 37, 115, 44, 32, 37, 100, 32, 108, 101, 102, 116]⟩, .slice (some ⟨blk, 0, none⟩) 3 3] w fun e w' =>
      e = .returned (.tuple #[]) ∧ ∃ o, w' = (((w.alloc o).drew.setCell ⟨R, 2, none⟩ (.iface 47 (.pointer (some ⟨w.heap.size, 0, none⟩)))).setCell ⟨R, 3, none⟩ (.int .i64 at')) := by
  have r2 := h.c2
  have s2 := fun o => (h.alloc o).c2
  have z2 := fun o => (h.alloc o).fz 2
  have s3 := fun o => ((h.alloc o).set2 (.iface 47 (.pointer (some ⟨w.heap.size, 0, none⟩)))).c3
  have z3 := fun o => ((h.alloc o).set2 (.iface 47 (.pointer (some ⟨w.heap.size, 0, none⟩)))).fz 3
  go_enter Ybaf.func14, Ybaf.ntmps14
  go_wp2_with (go_at_call 19; refine (errorf_any F s t p blk _ hF hc0 hc1 hc2).mono ?_; rintro e w' ⟨rfl, o, rfl⟩)
  first | go_end0 | refine bodyPost_ret (results_none rfl _ _ _) rfl ?_
  exact ⟨rfl, _, rfl⟩

/-- The same, the operands' block told whole. -/
theorem fail_new' (F : Interp) (R V n : Nat) (i ea at' : Int) (s t : ByteArray) (p : Int) (blk : Nat) (w : World) (hF : F.answers w.tape) (h : Rd w R V n i .nilIface ea)
    (hb : w.heap[blk]? = some (.cells #[.iface 9 (.string s), .iface 9 (.string t), .iface 3 (.int .i64 p)] 20)) :
    Calls Ybaf.prog 14 #[.pointer (some ⟨R, 0, none⟩), .int .i64 at', .string ⟨#[37, 115, 32, 114, 117, 110, 115, 32, 112, 97, 115, 116, 32, 116, 104, 101, 32, 101, 110, 100, 58, 32, 37, 115, 44, 32, 37, 100, 32, 108, 101, 102, 116]⟩, .slice (some ⟨blk, 0, none⟩) 3 3] w fun e w' =>
      e = .returned (.tuple #[]) ∧ ∃ o, w' = (((w.alloc o).drew.setCell ⟨R, 2, none⟩ (.iface 47 (.pointer (some ⟨w.heap.size, 0, none⟩)))).setCell ⟨R, 3, none⟩ (.int .i64 at')) :=
  fail_new F R V n i ea at' s t p blk w hF h (by simp [World.cell?, hb]) (by simp [World.cell?, hb]) (by simp [World.cell?, hb])
theorem ops_block (w : World) (m : Nat) (o : Obj) : ((w.drewN m).alloc o).heap[w.heap.size]? = some o := blk_alloc_new (w.drewN m) o
theorem ops_block2 (w : World) (m : Nat) (o o' : Obj) : (((w.drewN m).alloc o).alloc o').drew.heap[w.heap.size + 1]? = some o' := by
  have := blk_alloc_new ((w.drewN m).alloc o) o'
  rw [nblk_alloc] at this
  exact this

theorem drewN_two (w : World) (a : Addr) (v : Value) (m m' : Nat) : ((w.drewN m).setCell a v).drewN m' = (w.setCell a v).drewN (m + m') := by
  simp [World.drewN, World.setCell, Nat.add_assoc]

set_option maxHeartbeats 1000000 in
set_option maxRecDepth 100000 in
/-- 'take' within the value. -/
theorem take_ok (R V n i k : Nat) (ea : Int) (what : ByteArray) (w : World) (hn : (n : Int) ≤ 1048576) (hik : i + k ≤ n) (h : Rd w R V n i .nilIface ea) :
    Calls Ybaf.prog 9 #[.pointer (some ⟨R, 0, none⟩), .int .i64 k, .string what] w fun e w' => e = .returned (.slice (if n = i then some ⟨V, 0, none⟩ else some ⟨V, i, none⟩) k (n - i)) ∧ ∃ m, w' = (w.setCell ⟨R, 1, none⟩ (.int .i64 ((i : Int) + k))).drewN m := by
  have r0 := h.c0
  have r1 := h.c1
  have r2 := h.c2
  have z1 := h.fz 1
  have s0 := (h.set1 ((i : Int) + k)).c0
  have s1 := (h.set1 ((i : Int) + k)).c1
  have hle : ¬ ((n : Int) - i < k) := by omega
  have hi0 : (0 : Int) ≤ i := by omega
  have hk0 : (0 : Int) ≤ k := by omega
  have hin : (i : Int) ≤ n := by omega
  go_enter Ybaf.func9, Ybaf.ntmps9
  go_wp2_with fail
  go_quiet (fail)
  go_wp2_with fail
  go_quiet (fail)
  go_wp2_with fail
  all_goals
    go_ret
    exact ⟨rfl, _, drewN_two _ _ _ _ _⟩

/-- What holds of the world through the region that asks for the error: the reader's cells; nothing that was there has turned. -/
abbrev KS (w : World) (R V n : Nat) (i : Int) (er : Value) (ea : Int) (w' : World) : Prop :=
  w'.cell? ⟨R, 0, none⟩ = some (.slice (some ⟨V, 0, none⟩) n n) ∧ w'.cell? ⟨R, 1, none⟩ = some (.int .i64 i) ∧ Hid (Rd w' R V n i er ea ∧ Below w.heap.size w w')
theorem KS.start {w : World} {R V n : Nat} {i : Int} {er : Value} {ea : Int} (h : Rd w R V n i er ea) (m : Nat) : KS w R V n i er ea (w.drewN m) :=
  ⟨h.c0, h.c1, h, below_drewN (Below.refl _ _) m⟩
theorem KS.drew {w w' : World} {R V n : Nat} {i : Int} {er : Value} {ea : Int} (h : KS w R V n i er ea w') : KS w R V n i er ea w'.drew :=
  ⟨h.1, h.2.1, h.2.2.out.1, h.2.2.out.2.drew⟩
theorem KS.alloc {w w' : World} {R V n : Nat} {i : Int} {er : Value} {ea : Int} (h : KS w R V n i er ea w') (o : Obj) : KS w R V n i er ea (w'.alloc o) :=
  ⟨(h.2.2.out.1.alloc o).c0, (h.2.2.out.1.alloc o).c1, h.2.2.out.1.alloc o, h.2.2.out.2.alloc h.2.2.out.2.size o⟩

set_option maxHeartbeats 1000000 in
set_option maxRecDepth 100000 in
/-- 'take' behind an earlier error: zeros. -/
theorem take_err (F : Interp) (R V n i k : Nat) (ea : Int) (et : TypeId) (ev : Value) (what : ByteArray) (w : World) (hF : F.answers w.tape) (hn : (n : Int) ≤ 1048576) (hin : (i : Int) ≤ n) (hkn : (k : Int) ≤ 1048580) (h : Rd w R V n i (.iface et ev) ea) :
    Calls Ybaf.prog 9 #[.pointer (some ⟨R, 0, none⟩), .int .i64 k, .string what] w fun e w' => ∃ X, e = .returned (.slice (some ⟨X, 0, none⟩) k k) ∧ w.heap.size ≤ X ∧ w'.rowIs X 5 k (fun _ => .int .u8 0) ∧ Below w.heap.size w w' := by
  have hmk := run_make_row' (P := Ybaf.prog) 22 5 (.int .u8 0) 1 Ybaf.underlying22 Ybaf.info5 rfl .i64 .i64 k (by omega) (by omega)
  have r0 := h.c0
  have r1 := h.c1
  have r2 := h.c2
  have hk0 : (0 : Int) ≤ k := by omega
  have hi0 : (0 : Int) ≤ i := by omega
  go_enter Ybaf.func9, Ybaf.ntmps9
  go_wp2_with fail
  go_quiet (fail)
  go_upto_region 2 with fail
  go_cut [] from 7 to 48 (fun wx => Below w.heap.size w wx)
  case first =>
    have hst := KS.start h
    by_cases hk1 : (k : Int) = 1
    · obtain rfl : k = 1 := by omega
      clear hmk
      go_region_held (fun w' => w'.cell? ⟨R, 0, none⟩ = some (.slice (some ⟨V, 0, none⟩) n n) ∧ w'.cell? ⟨R, 1, none⟩ = some (.int .i64 i) ∧ Hid (Rd w' R V n i (.iface et ev) ea ∧ Below w.heap.size w w'))
        (first | exact KS.drew (by assumption) | exact (KS.start h _).drew | exact (KS.alloc (by assumption) _).drew | exact KS.alloc (by assumption) _ | assumption)
        (first
          | (go_at_call 15; refine (count_one _).mono ?_; rintro e w' ⟨⟨t, rfl⟩, rfl⟩)
          | (go_at_call 14; refine (fail_kept R V n i ea _ et ev _ _ _ (by exact (Rd.alloc (w := World.drewN w _) h _).drew)).mono ?_; rintro e w' ⟨rfl, rfl⟩))
      all_goals
        go_wp2_with fail
        go_meet
        first | exact ((below_drewN (Below.refl _ _) _).alloc (Nat.le_refl _) _) | exact (((below_drewN (Below.refl _ _) _).alloc (Nat.le_refl _) _).alloc (by simp) _).drew
    · have hk1b : ((k : Int) == 1) = false := beq_eq_false_iff_ne.2 hk1
      go_region_held (fun w' => w'.cell? ⟨R, 0, none⟩ = some (.slice (some ⟨V, 0, none⟩) n n) ∧ w'.cell? ⟨R, 1, none⟩ = some (.int .i64 i) ∧ Hid (Rd w' R V n i (.iface et ev) ea ∧ Below w.heap.size w w'))
        (first | exact KS.drew (by assumption) | exact (KS.start h _).drew | exact (KS.alloc (by assumption) _).drew | exact KS.alloc (by assumption) _ | assumption)
        (first
          | (go_at_call 15; refine (count_other F _ _ (by exact hF) hk1b).mono ?_; rintro e w' ⟨⟨t, rfl⟩, o, rfl⟩)
          | (go_at_call 14; refine (fail_kept R V n i ea _ et ev _ _ _ (by exact ((Rd.alloc (w := World.drewN w _) h _).alloc _).drew)).mono ?_; rintro e w' ⟨rfl, rfl⟩))
      all_goals
        go_wp2_with fail
        go_meet
        first | exact ((below_drewN (Below.refl _ _) _).alloc (Nat.le_refl _) _) | exact (((below_drewN (Below.refl _ _) _).alloc (Nat.le_refl _) _).alloc (by simp) _).drew
  case rest =>
    go_wp2_with fail
    go_ret
    exact ⟨_, rfl, hcut.size, World.rowIs_made _ _ _ _, hcut.alloc hcut.size _⟩

/-- The same where the error is about to be kept: the reader's first two cells. -/
abbrev KT (R V n : Nat) (i : Int) (w' : World) : Prop :=
  w'.cell? ⟨R, 0, none⟩ = some (.slice (some ⟨V, 0, none⟩) n n) ∧ w'.cell? ⟨R, 1, none⟩ = some (.int .i64 i) ∧ Hid (∃ er ea', Rd w' R V n i er ea')
theorem KT.start {w : World} {R V n : Nat} {i : Int} {er : Value} {ea : Int} (h : Rd w R V n i er ea) (m : Nat) : KT R V n i (w.drewN m) := ⟨h.c0, h.c1, _, _, h⟩
theorem KT.drew {w' : World} {R V n : Nat} {i : Int} (h : KT R V n i w') : KT R V n i w'.drew := h
theorem KT.alloc {w' : World} {R V n : Nat} {i : Int} (h : KT R V n i w') (o : Obj) : KT R V n i (w'.alloc o) := by
  obtain ⟨er, ea', hr⟩ := h.2.2.out
  exact ⟨(hr.alloc o).c0, (hr.alloc o).c1, _, _, hr.alloc o⟩
/-- What 'fail' leaves. -/
def Past (w : World) (R V n : Nat) (i : Int) (w' : World) : Prop := Below R w w' ∧ ∃ E, Rd w' R V n i (.iface 47 (.pointer (some ⟨E, 0, none⟩))) i
theorem KT.of {w w' : World} {R V n : Nat} {i : Int} (h : Past w R V n i w') : KT R V n i w' := by
  obtain ⟨_, E, hr⟩ := h
  exact ⟨hr.c0, hr.c1, _, _, hr⟩
theorem past_of {w W w' : World} {R V n : Nat} {i ea : Int} {o : Obj} (hb : Below R w W) (hr : Rd W R V n i .nilIface ea)
    (h : w' = ((W.alloc o).drew.setCell ⟨R, 2, none⟩ (.iface 47 (.pointer (some ⟨W.heap.size, 0, none⟩)))).setCell ⟨R, 3, none⟩ (.int .i64 i)) : Past w R V n i w' := by
  subst h
  exact ⟨((hb.alloc (Nat.le_of_lt hr.lt) _).drew.setCell (Nat.le_refl _) _).setCell (Nat.le_refl _) _, _, ((hr.alloc o).set2 _).set3 _⟩
theorem below_R {w : World} {R V n : Nat} {i ea : Int} {er : Value} (h : Rd w R V n i er ea) (m : Nat) (o : Obj) : Below R w ((w.drewN m).alloc o) :=
  (below_drewN (Below.refl _ _) m).alloc (Nat.le_of_lt h.lt) _
theorem below_R2 {w : World} {R V n : Nat} {i ea : Int} {er : Value} (h : Rd w R V n i er ea) (m : Nat) (o o' : Obj) : Below R w (((w.drewN m).alloc o).alloc o').drew :=
  (((below_drewN (Below.refl _ _) m).alloc (Nat.le_of_lt h.lt) _).alloc (by have := h.lt; simp; omega) _).drew

set_option maxHeartbeats 1000000 in
set_option maxRecDepth 100000 in
/-- 'take' past the end: zeros; the error is kept. -/
theorem take_past (F : Interp) (R V n i k : Nat) (ea : Int) (what : ByteArray) (w : World) (hF : F.answers w.tape) (hn : (n : Int) ≤ 1048576) (hin : (i : Int) ≤ n) (hkn : (k : Int) ≤ 1048580) (hgt : (n : Int) - i < k) (h : Rd w R V n i .nilIface ea) :
    Calls Ybaf.prog 9 #[.pointer (some ⟨R, 0, none⟩), .int .i64 k, .string what] w fun e w' => ∃ X, e = .returned (.slice (some ⟨X, 0, none⟩) k k) ∧ w.heap.size ≤ X ∧ w'.rowIs X 5 k (fun _ => .int .u8 0) ∧ Past w R V n i w' := by
  have hmk := run_make_row' (P := Ybaf.prog) 22 5 (.int .u8 0) 1 Ybaf.underlying22 Ybaf.info5 rfl .i64 .i64 k (by omega) (by omega)
  have r0 := h.c0
  have r1 := h.c1
  have r2 := h.c2
  have hk0 : (0 : Int) ≤ k := by omega
  have hi0 : (0 : Int) ≤ i := by omega
  go_enter Ybaf.func9, Ybaf.ntmps9
  go_wp2_with fail
  go_quiet (fail)
  go_upto_region 2 with fail
  go_cut [] from 7 to 48 (fun wx => Past w R V n i wx)
  case first =>
    clear hmk
    have hst := KT.start h
    by_cases hk1 : (k : Int) = 1
    · obtain rfl : k = 1 := by omega
      go_region_held (fun w' => w'.cell? ⟨R, 0, none⟩ = some (.slice (some ⟨V, 0, none⟩) n n) ∧ w'.cell? ⟨R, 1, none⟩ = some (.int .i64 i) ∧ Hid (∃ er ea', Rd w' R V n i er ea'))
        (first | exact KT.drew (by assumption) | exact (KT.start h _).drew | exact KT.of (by assumption) | exact (KT.alloc (by assumption) _).drew | exact KT.alloc (by assumption) _ | assumption)
        (first
          | (go_at_call 15; refine (count_one _).mono ?_; rintro e w' ⟨⟨t, rfl⟩, rfl⟩)
          | (go_at_call 14; refine (fail_new' F R V n i ea _ _ _ _ _ _ (by exact hF) (by exact Rd.alloc (w := World.drewN w _) h _) (by exact ops_block _ _ _)).mono ?_; rintro e w' ⟨rfl, o, hw'⟩; have hpast := past_of (below_R h _ _) (Rd.alloc (w := World.drewN w _) h _) hw'; clear hw'))
      all_goals
        go_wp2_with fail
        go_meet
        assumption
    · have hk1b : ((k : Int) == 1) = false := beq_eq_false_iff_ne.2 hk1
      go_region_held (fun w' => w'.cell? ⟨R, 0, none⟩ = some (.slice (some ⟨V, 0, none⟩) n n) ∧ w'.cell? ⟨R, 1, none⟩ = some (.int .i64 i) ∧ Hid (∃ er ea', Rd w' R V n i er ea'))
        (first | exact KT.drew (by assumption) | exact (KT.start h _).drew | exact KT.of (by assumption) | exact (KT.alloc (by assumption) _).drew | exact KT.alloc (by assumption) _ | assumption)
        (first
          | (go_at_call 15; refine (count_other F _ _ (by exact hF) hk1b).mono ?_; rintro e w' ⟨⟨t, rfl⟩, o, rfl⟩)
          | (go_at_call 14; refine (fail_new' F R V n i ea _ _ _ _ _ _ (by exact hF) (by exact ((Rd.alloc (w := World.drewN w _) h _).alloc _).drew) (by exact ops_block2 _ _ _ _)).mono ?_; rintro e w' ⟨rfl, o, hw'⟩; have hpast := past_of (below_R2 h _ _ _) ((Rd.alloc (w := World.drewN w _) h _).alloc _).drew hw'; clear hw'))
      all_goals
        go_wp2_with fail
        go_meet
        assumption
  case rest =>
    go_wp2_with fail
    go_ret
    obtain ⟨hb, E, hr⟩ := hcut
    exact ⟨_, rfl, hb.size, World.rowIs_made _ _ _ _, hb.alloc (Nat.le_of_lt hr.lt) _, E, hr.alloc _⟩
end Go.Proofs.YbulkegjeFmt
