import Derived.Test.YbulkegjeFmtParts
import Derived.Deep.LoopGhost
import Derived.Deep.Light
namespace Go.Proofs.YbulkegjeFmt
open Go.RowKit Go.Deep Go.Extern.Stop Go.Stop Go.Extern
set_option linter.unusedVariables false

set_option maxRecDepth 100000 in
theorem walk_long (ao : Option Addr) (n cap : Nat) (i nn : Int) (hasErr : Bool) (ea : Int) (what : ByteArray) (w : World) (hn : (1048576 : Int) < n) :
    Calls Ybaf.prog 4 #[.slice ao n cap, .int .u64 i, .int .u64 nn, .bool hasErr, .int .i64 ea, .string what] w fun e w' => e = .returned (.bool true) ∧ Below w.heap.size w w' := by
  go_enter Ybaf.func4, Ybaf.ntmps4
  go_wp2_with fail
  go_ret
  exact ⟨rfl, Below.refl _ _⟩

theorem new_any (s : ByteArray) (w : World) : Calls Ybaf.prog 8 #[.string s] w fun e w' => e = .returned (.iface 47 (.pointer (some ⟨w.heap.size, 0, none⟩))) ∧ ∃ o, w' = w.alloc o := by
  go_enter Ybaf.func8, Ybaf.ntmps8
  go_wp2
  go_ret
  exact ⟨rfl, _, rfl⟩

theorem Rd.new (w : World) (V n : Nat) (i : Int) (er : Value) (ea : Int) : Rd (w.alloc (.cells #[.slice (some ⟨V, 0, none⟩) n n, .int .i64 i, er, .int .i64 ea] 36)) w.heap.size V n i er ea := blk_alloc_new _ _

theorem src_at {w : World} {ao : Option Addr} {n cap : Nat} {Z : Nat → Int} (h : Src w ao n cap Z) (hn : 0 < n) : ∃ gb go, ao = some ⟨gb, go, none⟩ ∧ ∀ j, j < n → w.cell? ⟨gb, go + j, none⟩ = some (.int .u8 (Z j)) := by
  rcases h with ⟨_, ⟨_, h0, _⟩ | ⟨x, rfl, hc⟩⟩
  · omega
  · obtain ⟨b, off, spot⟩ := x
    have hspot : spot = none := by simpa [Addr.add] using World.cell?_spot (hc 0 hn)
    subst hspot
    exact ⟨b, off, rfl, fun j hj => by rw [← Go.WideShapes.add_plain]; exact hc j hj⟩

/-- 'take' within the value, the place of its result under a name. -/
theorem take_ok' (R V n i k : Nat) (ea : Int) (what : ByteArray) (w : World) (hn : (n : Int) ≤ 1048576) (hik : i + k ≤ n) (h : Rd w R V n i .nilIface ea) :
    Calls Ybaf.prog 9 #[.pointer (some ⟨R, 0, none⟩), .int .i64 k, .string what] w fun e w' => ∃ A : Option Addr, e = .returned (.slice A k (n - i)) ∧ Hid (i < n → A = some ⟨V, i, none⟩) ∧ Hid (∃ m, w' = (w.setCell ⟨R, 1, none⟩ (.int .i64 ((i : Int) + k))).drewN m) := by
  refine (take_ok R V n i k ea what w hn hik h).mono fun e w' ⟨he, hw⟩ => ⟨_, he, ?_, hw⟩
  intro hlt
  rw [if_neg (by omega)]

/-- What the error before the call is. -/
def Pre (hasErr : Bool) (pre : Value) : Prop := (hasErr = false ∧ pre = .nilIface) ∨ (hasErr = true ∧ ∃ E : Nat, pre = .iface 47 (.pointer (some ⟨E, 0, none⟩)))

set_option maxHeartbeats 4000000 in
set_option maxRecDepth 100000 in
theorem walk_short (F : Interp) (ao : Option Addr) (n cap : Nat) (Z : Nat → Int) (i m : Int) (hasErr : Bool) (ea : Int) (what : ByteArray) (w : World) (hF : F.answers w.tape) (hn : (n : Int) ≤ 1048576)
    (hi0 : 0 ≤ i) (hm0 : 0 ≤ m) (hsrc : Src w ao n cap Z) :
    Calls Ybaf.prog 4 #[.slice ao n cap, .int .u64 i, .int .u64 m, .bool hasErr, .int .i64 ea, .string what] w fun e w' => e = .returned (.bool true) ∧ Below w.heap.size w w' := by
  have hn' : ¬ (1048576 : Int) < n := by omega
  have hn0 : (0 : Int) ≤ n := by omega
  obtain ⟨I, hI⟩ : ∃ I : Nat, i % ((n : Int) + 1) = I := by
    obtain ⟨I, hI⟩ := Int.eq_ofNat_of_zero_le (Int.emod_nonneg i (show (n : Int) + 1 ≠ 0 by omega))
    exact ⟨I, hI⟩
  have hIn : (I : Int) ≤ n := by have := Int.emod_lt_of_pos i (show (0 : Int) < (n : Int) + 1 by omega); omega
  have hI0 : (0 : Int) ≤ I := by omega
  obtain ⟨M, hM⟩ : ∃ M : Nat, m % ((n : Int) - I + 4) = M := by
    obtain ⟨M, hM⟩ := Int.eq_ofNat_of_zero_le (Int.emod_nonneg m (show (n : Int) - I + 4 ≠ 0 by omega))
    exact ⟨M, hM⟩
  have hMn : (M : Int) < (n : Int) - I + 4 := by have := Int.emod_lt_of_pos m (show (0 : Int) < (n : Int) - I + 4 by omega); omega
  have hM0 : (0 : Int) ≤ M := by omega
  go_enter Ybaf.func4, Ybaf.ntmps4
  go_upto_region 5 with fail
  clear hI hM hi0 hm0 hn'
  have hmk := run_make_row' (P := Ybaf.prog) 22 5 (.int .u8 0) 1 Ybaf.underlying22 Ybaf.info5 rfl .i64 .i64 n (by omega) (by omega)
  obtain ⟨w2, hcp, hrow2, hbel2, hsz2⟩ := copy_made w ao n cap Z hsrc
  go_upto_if 47 with fail
  clear hmk hcp
  go_cut [16] from 22 to 48 (fun s16 wx => Pre hasErr s16 ∧ wx.rowIs w.heap.size 5 n (fun j => .int .u8 (Z j)) ∧ Below w.heap.size w wx ∧ w.heap.size < wx.heap.size)
  case first =>
    cases hasErr
    · go_wp2_with fail
      go_meet
      exact ⟨.inl ⟨rfl, rfl⟩, hrow2, hbel2, by omega⟩
    · go_wp2_with (go_at_call 8; refine (new_any _ _).mono ?_; rintro e w' ⟨rfl, o, rfl⟩)
      go_meet
      exact ⟨.inr ⟨rfl, _, rfl⟩, hrow2.alloc _, hbel2.alloc (by omega) _, by rw [nblk_alloc]; omega⟩
  case rest =>
    clear hrow2 hbel2 hsz2
    obtain ⟨hpre, hrow3, hbel3, hsz3⟩ := hcut
    obtain ⟨R, hR⟩ : ∃ R, wc.heap.size = R := ⟨_, rfl⟩
    rcases hpre with ⟨rfl, rfl⟩ | ⟨rfl, E, rfl⟩
    · have hrd := Rd.new wc w.heap.size n I .nilIface ea
      rw [hR] at hrd hsz3
      have hrow4 := hrow3.alloc (.cells #[.slice (some ⟨w.heap.size, 0, none⟩) n n, .int .i64 I, .nilIface, .int .i64 ea] 36)
      have hbel4 := hbel3.alloc (by omega) (.cells #[.slice (some ⟨w.heap.size, 0, none⟩) n n, .int .i64 I, .nilIface, .int .i64 ea] 36)
      clear hrow3 hbel3
      go_upto_region 11 with fail
      clear hR
      generalize wc.alloc (.cells #[.slice (some ⟨w.heap.size, 0, none⟩) n n, .int .i64 I, .nilIface, .int .i64 ea] 36) = W at *
      have hFW : F.answers W.tape := by rw [hbel4.tape]; exact hF
      by_cases hok : I + M ≤ n
      · go_upto_region 12 with (go_at_call 9; refine (take_ok' R w.heap.size n I M ea what _ hn hok hrd).mono ?_; rintro e W1 ⟨A, rfl, hA, HW1⟩)
        obtain ⟨q0, hW1⟩ := HW1.out
        clear HW1
        have hrd1 : Rd W1 R w.heap.size n ((I : Int) + M) .nilIface ea := by rw [hW1]; exact hrd.set1 _
        have hrow5 : W1.rowIs w.heap.size 5 n (fun j => .int .u8 (Z j)) := by rw [hW1]; exact hrow4.setOther (by show w.heap.size ≠ R; omega) _
        have hbel5 : Below w.heap.size w W1 := by rw [hW1]; exact below_drewN (hbel4.setCell (by show w.heap.size ≤ R; omega) _) _
        clear hW1 hrow4 hbel4 hrd hFW
        have r0 := hrd1.c0
        have r1 := hrd1.c1
        have r2 := hrd1.c2
        have r3 := hrd1.c3
        go_upto_region 16 with (go_at_call 7; refine (equal_same _ ao n cap Z w _ hsrc hbel5 hrow5).mono ?_; rintro e W1 ⟨rfl, rfl⟩)
        have hnb := neq_byte
        go_cut [83] from 49 to 83 (fun s83 wx => s83 = .bool false ∧ ∃ q, wx = W1.drewN q)
        case first =>
          by_cases hn1 : 0 < n
          · have hn1z : 0 < (n : Int) := by omega
            have hnz : decide (0 < (n : Int)) = true := by simp; omega
            go_quiet (fail)
            go_wp2_with fail
            go_meet
            exact ⟨rfl, _, rfl⟩
          · have hn1z : ¬ 0 < (n : Int) := by omega
            have hnz : decide (0 < (n : Int)) = false := by simp; omega
            go_quiet (fail)
            go_wp2_with fail
            go_meet
            exact ⟨rfl, _, rfl⟩
        case rest =>
          obtain ⟨rfl, q, rfl⟩ := hcut
          have hokz : (M : Int) ≤ (n : Int) - I := by omega
          go_wp2_with fail
          go_loopg [20] M (fun g s wx => (∃ q', wx = W1.drewN q') ∧ ∃ j : Nat, j ≤ M ∧ g = M - j ∧ s = .int .i64 j)
          case atStart => exact ⟨⟨_, rfl⟩, 0, Nat.zero_le _, rfl, rfl⟩
          case round =>
            obtain ⟨⟨q', rfl⟩, j, hj, rfl, rfl⟩ := hrel
            by_cases hjM : j < M
            · have hjz : (j : Int) < (M : Int) := by omega
              obtain rfl := hA.out (by omega)
              obtain ⟨gb, go, rfl, hc⟩ := src_at hsrc (by omega)
              have hIj : I + j < n := by omega
              have hIjz : (I : Int) + j < n := by omega
              have hj0 : (0 : Int) ≤ (j : Int) := by omega
              have c1 := hrow5.cell hIj
              have c2 : W1.cell? ⟨gb, go + (I + j), none⟩ = some (.int .u8 (Z (I + j))) := by rw [hbel5.cell (p := ⟨gb, go + (I + j), none⟩) (World.block_lt_of_cell? _ _ (hc (I + j) hIj))]; exact hc (I + j) hIj
              clear hc
              go_wp2_with fail
              go_quiet (fail)
              go_wp2_with fail
              go_roundg (M - (j + 1))
              case measure => go_light; omega
              case rel => go_light; exact ⟨⟨_, rfl⟩, j + 1, by omega, rfl, by simp⟩
            · have hjz : ¬ (j : Int) < (M : Int) := by omega
              by_cases hM1 : 0 < M
              · have hM1z : 0 < (M : Int) := by omega
                have hMz : decide (0 < (M : Int)) = true := by simp; omega
                obtain rfl := hA.out (by omega)
                have hInz : (I : Int) < n := by omega
                go_wp2_with fail
                go_quiet (fail)
                go_wp2_with fail
                go_ret
                exact ⟨rfl, below_drewN (below_drewN hbel5 _) _⟩
              · have hM1z : ¬ 0 < (M : Int) := by omega
                have hMz : decide (0 < (M : Int)) = false := by simp; omega
                go_wp2_with fail
                go_quiet (fail)
                go_wp2_with fail
                go_ret
                exact ⟨rfl, below_drewN (below_drewN hbel5 _) _⟩
      · have hgt : (n : Int) - I < M := by omega
        go_upto_region 12 with (go_at_call 9; refine (take_past F R w.heap.size n I M ea what _ hFW hn hIn (by omega) hgt hrd).mono ?_; rintro e W1 ⟨X, rfl, hX, hzero, hpast⟩)
        obtain ⟨hb1, E, hrd1⟩ := hpast
        have hrow5 := hrow4.of_block (hb1.block w.heap.size hsz3)
        have hbel5 := hbel4.trans (hb1.mono (Nat.le_of_lt hsz3))
        clear hb1 hrow4 hbel4 hrd hFW
        have r0 := hrd1.c0
        have r1 := hrd1.c1
        have r2 := hrd1.c2
        have r3 := hrd1.c3
        go_upto_region 16 with (go_at_call 7; refine (equal_same _ ao n cap Z w _ hsrc hbel5 hrow5).mono ?_; rintro e W1 ⟨rfl, rfl⟩)
        have hnb := neq_byte
        go_cut [83] from 49 to 83 (fun s83 wx => s83 = .bool false ∧ ∃ q, wx = W1.drewN q)
        case first =>
          by_cases hn1 : 0 < n
          · have hn1z : 0 < (n : Int) := by omega
            have hnz : decide (0 < (n : Int)) = true := by simp; omega
            go_quiet (fail)
            go_wp2_with fail
            go_meet
            exact ⟨rfl, _, rfl⟩
          · have hn1z : ¬ 0 < (n : Int) := by omega
            have hnz : decide (0 < (n : Int)) = false := by simp; omega
            go_quiet (fail)
            go_wp2_with fail
            go_meet
            exact ⟨rfl, _, rfl⟩
        case rest =>
          obtain ⟨rfl, q, rfl⟩ := hcut
          have hokz : ¬ (M : Int) ≤ (n : Int) - I := by omega
          go_wp2_with fail
          go_loopg [21] M (fun g s wx => wx = W1.drewN q ∧ ∃ j : Nat, j ≤ M ∧ g = M - j ∧ s = .int .i64 j)
          case atStart => exact ⟨rfl, 0, Nat.zero_le _, rfl, rfl⟩
          case round =>
            obtain ⟨rfl, j, hj, rfl, rfl⟩ := hrel
            by_cases hjM : j < M
            · have hjz : (j : Int) < (M : Int) := by omega
              have z0 := hzero.cell hjM
              go_wp2_with fail
              go_roundg (M - (j + 1))
              case measure => go_light; omega
              case rel => go_light; exact ⟨rfl, j + 1, by omega, rfl, by simp⟩
            · have hjz : ¬ (j : Int) < (M : Int) := by omega
              go_wp2_with fail
              go_ret
              exact ⟨rfl, below_drewN hbel5 _⟩
    · have hrd := Rd.new wc w.heap.size n I (.iface 47 (.pointer (some ⟨E, 0, none⟩))) ea
      rw [hR] at hrd hsz3
      have hrow4 := hrow3.alloc (.cells #[.slice (some ⟨w.heap.size, 0, none⟩) n n, .int .i64 I, (.iface 47 (.pointer (some ⟨E, 0, none⟩))), .int .i64 ea] 36)
      have hbel4 := hbel3.alloc (by omega) (.cells #[.slice (some ⟨w.heap.size, 0, none⟩) n n, .int .i64 I, (.iface 47 (.pointer (some ⟨E, 0, none⟩))), .int .i64 ea] 36)
      clear hrow3 hbel3
      go_upto_region 11 with fail
      clear hR
      generalize wc.alloc (.cells #[.slice (some ⟨w.heap.size, 0, none⟩) n n, .int .i64 I, (.iface 47 (.pointer (some ⟨E, 0, none⟩))), .int .i64 ea] 36) = W at *
      have hFW : F.answers W.tape := by rw [hbel4.tape]; exact hF
      go_upto_region 12 with (go_at_call 9; refine (take_err F R w.heap.size n I M ea _ _ what _ hFW hn hIn (by omega) hrd).mono ?_; rintro e W1 ⟨X, rfl, hX, hzero, hb1⟩)
      have hrd1 : Rd W1 R w.heap.size n I (.iface 47 (.pointer (some ⟨E, 0, none⟩))) ea := (hb1.block R hrd.lt).trans hrd
      have hrow5 := hrow4.of_block (hb1.block w.heap.size hrow4.lt)
      have hbel5 := hbel4.trans (hb1.mono (Nat.le_of_lt hrow4.lt))
      clear hb1 hrow4 hbel4 hrd hFW
      have r0 := hrd1.c0
      have r1 := hrd1.c1
      have r2 := hrd1.c2
      have r3 := hrd1.c3
      go_upto_region 16 with (go_at_call 7; refine (equal_same _ ao n cap Z w _ hsrc hbel5 hrow5).mono ?_; rintro e W1 ⟨rfl, rfl⟩)
      have hnb := neq_byte
      have hee := eql_err
      go_cut [83] from 49 to 83 (fun s83 wx => s83 = .bool false ∧ ∃ q, wx = W1.drewN q)
      case first =>
        by_cases hn1 : 0 < n
        · have hn1z : 0 < (n : Int) := by omega
          have hnz : decide (0 < (n : Int)) = true := by simp; omega
          go_quiet (fail)
          go_wp2_with fail
          go_meet
          exact ⟨rfl, _, rfl⟩
        · have hn1z : ¬ 0 < (n : Int) := by omega
          have hnz : decide (0 < (n : Int)) = false := by simp; omega
          go_quiet (fail)
          go_wp2_with fail
          go_meet
          exact ⟨rfl, _, rfl⟩
      case rest =>
        obtain ⟨rfl, q, rfl⟩ := hcut
        go_wp2_with fail
        go_loopg [21] M (fun g s wx => wx = W1.drewN q ∧ ∃ j : Nat, j ≤ M ∧ g = M - j ∧ s = .int .i64 j)
        case atStart => exact ⟨rfl, 0, Nat.zero_le _, rfl, rfl⟩
        case round =>
          obtain ⟨rfl, j, hj, rfl, rfl⟩ := hrel
          by_cases hjM : j < M
          · have hjz : (j : Int) < (M : Int) := by omega
            have z0 := hzero.cell hjM
            go_wp2_with fail
            go_roundg (M - (j + 1))
            case measure => go_light; omega
            case rel => go_light; exact ⟨rfl, j + 1, by omega, rfl, by simp⟩
          · have hjz : ¬ (j : Int) < (M : Int) := by omega
            go_wp2_with fail
            go_ret
            exact ⟨rfl, below_drewN hbel5 _⟩
#print axioms walk_short
end Go.Proofs.YbulkegjeFmt
