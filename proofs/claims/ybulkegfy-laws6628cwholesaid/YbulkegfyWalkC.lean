import Derived.Test.YbulkegfyStateC
import Derived.Test.YbulkegfyEqls
import Derived.Deep.LoopGhost
import Derived.Deep.Cut
import Derived.Deep.Light
import Derived.Deep.CutRange
import Derived.Deep.DeepCutAuto
import Derived.BigGuard
namespace Go.Proofs.Ybulkegfy
open Go.RowKit Go.Deep

set_option maxHeartbeats 4000000 in
set_option maxRecDepth 100000 in
theorem walkC (a0 : Bool) (n : Nat) (a2 : Int) (a3 : Bool) (a4 : Bool) (a5 : Bool) (w1' : (n : Int) ≤ 65535) (w : World) :
    Calls Yba.prog 4 #[.bool a0, .int .u16 n, .int .i64 a2, .bool a3, .bool a4, .bool a5] w fun e w' => e = .returned (.bool true) ∧ Below w.heap.size w w' := by
  have hmk := run_make_row' (P := Yba.prog) 23 24 (.pointer none) 8 Yba.underlying23 Yba.info24 rfl .i64 .i64 n (by omega) (by omega)
  go_enter Yba.func4, Yba.ntmps4
  go_upto_if 30 with fail
  go_cut [14] from 28 to 44 (fun s14 wx => ∃ (hd : Option Addr) (S : Nat), s14 = .pointer hd ∧ wx.heap.size = S ∧ Base w wx a0 hd S none)
  case first =>
    cases a0
    · go_wp2_with fail
      go_meet
      exact ⟨none, _, rfl, by simp, base_no w⟩
    · go_wp2_with (go_at_call 5; refine (store_any _ _ (.int .i64 0) _ _ ?_ ?_).mono ?_; (· simp [go_sem]); (· simp [go_sem]); rintro e w' ⟨rfl, rfl⟩)
      go_meet
      exact ⟨_, _, rfl, by simp, base_yes w⟩
  case rest =>
    obtain ⟨hd, S, rfl, hS, hB⟩ := hcut
    go_wp2_with fail
    clear hmk
    go_loopg [16] n (fun g i wr => ∃ k : Nat, k ≤ n ∧ g = n - k ∧ i = .int .i64 k ∧ LA w wr a0 hd S n k)
    case atStart => exact ⟨0, Nat.zero_le _, rfl, rfl, la_start hB hS n⟩
    case round =>
      obtain ⟨k, hk, rfl, rfl, hA⟩ := hrel
      by_cases hkn : k < n
      · have hkz : (k : Int) < (n : Int) := by omega
        have hsz := hA.size
        have t0 : ∀ o, (wr.alloc o).cell? ⟨S, k, none⟩ = some (.pointer none) := fun o => by rw [(hA.top.alloc o).cell hkn, if_neg (Nat.lt_irrefl _)]
        have t1 : ∀ o, (wr.alloc o).frozen? ⟨S, k, none⟩ = false := fun o => (hA.top.alloc o).frozen k
        go_wp2_with fail
        go_roundg (n - (k + 1))
        case measure => go_light; omega
        case rel => go_light; exact ⟨k + 1, by omega, rfl, by simp, la_step hA⟩
      · have hkz : ¬ (k : Int) < (n : Int) := by omega
        obtain rfl : k = n := by omega
        have hB0 := lb_start hA
        clear hA hB hS
        go_wp2_with fail
        go_loopg [17] k (fun g i wx => ∃ j : Nat, j ≤ k ∧ g = k - j ∧ i = .int .i64 j ∧ LB w wx a0 hd S k none j)
        case atStart => exact ⟨0, Nat.zero_le _, rfl, rfl, hB0⟩
        case round =>
          obtain ⟨j, hj, rfl, rfl, hL⟩ := hrel
          clear hB0
          by_cases hjk : j + 1 < k
          · have hjz : (j : Int) + 1 < (k : Int) := by omega
            have t0 := hL.top.cell (i := j) (by omega)
            have t1 := hL.top.cell (i := j + 1) hjk
            have t2 := (hL.made j (by omega)).c4
            rw [if_neg (by omega)] at t2
            have t3 := (hL.made j (by omega)).fz 4
            go_wp2_with fail
            go_region
            go_wp2_with fail
            go_roundg (k - (j + 1))
            case measure => go_light; omega
            case rel => go_light; exact ⟨j + 1, by omega, rfl, by simp, lb_step hL hjk⟩
          · have hjz : ¬ (j : Int) + 1 < (k : Int) := by omega
            have hC := lc_start hL (by omega)
            have hlo := hC.base.lo
            clear hL
            go_upto_if 80 with fail
            go_cut [] from 48 to 86 (fun wx => LC w wx a0 hd S k (spOf S k))
            case first =>
              by_cases hk0 : 0 < k
              · have hk0z : 0 < (k : Int) := by omega
                have t0 := hC.top.cell hk0
                have t1 := hC.base.q.c3
                have t2 := hC.base.q.fz 3
                go_wp2_with fail
                go_meet
                rw [show spOf S k = some ⟨S + 1, 0, none⟩ from by rw [spOf, if_pos hk0]]
                exact hC.spare (some ⟨S + 1, 0, none⟩)
              · have hk0z : ¬ 0 < (k : Int) := by omega
                go_wp2_with fail
                go_meet
                rw [show spOf S k = none from by rw [spOf, if_neg hk0]]
                exact hC
            case rest =>
              clear hC
              have hC1 := hcut
              clear hcut
              generalize hsp : spOf S k = sp at *
              have Hsp : Hid (spOf S k = sp) := hsp
              clear hsp
              obtain ⟨J, hJ⟩ : ∃ J, wc.heap.size = J := ⟨_, rfl⟩
              go_upto_if 95 with fail
              go_cut [20] from 87 to 99 (fun s20 wx => s20 = .pointer (some ⟨J + 2, 0, none⟩) ∧ ∃ nx, LD w wx a0 hd S k sp J a2 a3 none nx)
              case first =>
                cases a4
                · go_wp2_with fail
                  go_meet
                  exact ⟨rfl, none, ld_start hC1 hJ a2 a3 _⟩
                · go_wp2_with fail
                  go_meet
                  exact ⟨rfl, _, ld_start hC1 hJ a2 a3 _⟩
              case rest =>
                clear hC1 hJ
                obtain ⟨rfl, nx, hD1⟩ := hcut
                go_upto_if 100 with fail
                go_cut [] from 100 to 104 (fun wx => ∃ pv, LD w wx a0 hd S k sp J a2 a3 pv nx)
                case first =>
                  cases a5
                  · go_wp2_with fail
                    go_meet
                    exact ⟨none, hD1⟩
                  · have t0 := hD1.me.c3
                    have t1 := hD1.me.fz 3
                    go_wp2_with fail
                    go_meet
                    exact ⟨_, hD1.prev _⟩
                case rest =>
                  clear hD1
                  obtain ⟨pv, hD2⟩ := hcut
                  have t0 := hD2.lc.base.q.c3
                  have t1 := hD2.me.c4
                  have t2 := hD2.me.c3
                  go_upto_region 29 with fail
                  clear t0 t1 t2
                  go_cut [] from 105 to 119 (fun wx => ∃ sp' ad' nx', LD w wx a0 hd S k sp' J a2 ad' pv nx' ∧ (a0 = false → 0 < k → sp' = sp ∧ nx' = nx ∧ ad' = a3) ∧ (a0 = true ∨ k = 0 → sp' = some ⟨J + 2, 0, none⟩ ∧ nx' = sp ∧ ad' = false))
                  case first =>
                    have hne : w.heap.size ≠ J + 2 := by have := hD2.lo; omega
                    cases a0
                    · obtain rfl := hD2.lc.base.no rfl
                      by_cases hk0 : 0 < k
                      · have e := Hsp.out
                        rw [spOf, if_pos hk0] at e
                        subst e
                        have hq := hD2.lc.base.q
                        go_wp2_with (go_at_call 8; refine (recycle_keep _ _ _ _ _ _ hq).mono ?_; rintro e w' ⟨rfl, rfl⟩)
                        go_meet
                        exact ⟨_, _, _, hD2, fun _ _ => ⟨rfl, rfl, rfl⟩, fun h => by rcases h with h | h; (· cases h); omega⟩
                      · have e := Hsp.out
                        rw [spOf, if_neg hk0] at e
                        subst e
                        have hq := hD2.lc.base.q
                        have hm := hD2.me
                        go_wp2_with (go_at_call 8; refine (recycle_bare _ _ _ _ _ _ _ _ _ hne hq hm).mono ?_; rintro e w' ⟨rfl, rfl⟩)
                        go_meet
                        exact ⟨_, _, _, ((hD2.adm false).next none).spare _, fun _ h => absurd h hk0, fun _ => ⟨rfl, rfl, rfl⟩⟩
                    · obtain ⟨hSe, rfl, _⟩ := hD2.lc.base.yes rfl
                      clear hSe
                      have hq := hD2.lc.base.q
                      have hm := hD2.me
                      go_wp2_with (go_at_call 8; refine (recycle_head _ _ _ _ _ _ _ _ _ _ _ hne hq hm).mono ?_; rintro e w' ⟨rfl, rfl⟩)
                      go_meet
                      exact ⟨_, _, _, ((hD2.adm false).next sp).spare _, (fun h => by cases h), fun _ => ⟨rfl, rfl, rfl⟩⟩
                  case rest =>
                    clear hD2
                    obtain ⟨sp', ad', nx', hD3, hy, hn⟩ := hcut
                    have hbel := hD3.lc.base.below
                    have m0 := hD3.me.c0
                    have m1 := hD3.me.c1
                    have m2 := hD3.me.c2
                    have m3 := hD3.me.c3
                    have m4 := hD3.me.c4
                    have n0 := hD3.jn.c0
                    have n4 := hD3.jn.c4
                    have p0 := hD3.jp.c0
                    have p3 := hD3.jp.c3
                    have htop := hD3.lc.top
                    have hmade := hD3.lc.made
                    have hq := hD3.lc.base.q
                    have hyes := hD3.lc.base.yes
                    have hno := hD3.lc.base.no
                    clear hD3
                    have hns := neq_self
                    have hnc := neq_chan
                    cases a0
                    · obtain rfl := hno rfl
                      clear hno hyes
                      have q0 := hq.c0
                      have q1 := hq.c1
                      have q2 := hq.c2
                      have q3 := hq.c3
                      simp only [Bool.false_eq_true, if_false] at q2
                      clear hq
                      by_cases hk0 : 0 < k
                      · obtain ⟨rfl, rfl, rfl⟩ := hy rfl hk0
                        clear hy hn
                        have hk0z : 0 < (k : Int) := by omega
                        go_wp2_with (go_at_call 7; refine (load_any _ _ _ _ q2).mono ?_; rintro e W ⟨rfl, rfl⟩)
                        go_loopg [26, 27] k (fun g i t wx => W = wx ∧ ∃ j : Nat, j ≤ k ∧ g = k - j ∧ i = .int .i64 j)
                        case atStart => exact ⟨rfl, 0, Nat.zero_le _, rfl, rfl⟩
                        case round =>
                          obtain ⟨rfl, i, hi, rfl, rfl⟩ := hrel
                          by_cases hik : i < k
                          · have hiz : (i : Int) < (k : Int) := by omega
                            have d0 := (hmade i hik).c0
                            have d1 := (hmade i hik).c1
                            have d3 := (hmade i hik).c3
                            have d4 := (hmade i hik).c4
                            have e0 := htop.cell hik
                            by_cases hi1 : i + 1 < k
                            · have hi1z : (i : Int) + 1 < (k : Int) := by omega
                              have e1 := htop.cell hi1
                              rw [if_pos hi1] at d4
                              go_wp2_with fail
                              go_roundg (k - (i + 1))
                              case measure => go_light; omega
                              case rel => go_light; exact ⟨rfl, i + 1, by omega, rfl, by simp⟩
                            · have hi1z : ¬ (i : Int) + 1 < (k : Int) := by omega
                              rw [if_neg hi1] at d4
                              go_wp2_with fail
                              go_roundg (k - (i + 1))
                              case measure => go_light; omega
                              case rel => go_light; exact ⟨rfl, i + 1, by omega, rfl, by simp⟩
                          · have hiz : ¬ (i : Int) < (k : Int) := by omega
                            go_wp2_with fail
                            go_ret
                            exact ⟨rfl, hbel⟩
                      · obtain ⟨rfl, rfl, rfl⟩ := hn (Or.inr (by omega))
                        clear hy hn
                        have hk0z : ¬ 0 < (k : Int) := by omega
                        go_wp2_with (go_at_call 7; refine (load_any _ _ _ _ q2).mono ?_; rintro e W ⟨rfl, rfl⟩)
                        go_loopg [26, 27] k (fun g i t wx => W = wx ∧ ∃ j : Nat, j ≤ k ∧ g = k - j ∧ i = .int .i64 j)
                        case atStart => exact ⟨rfl, 0, Nat.zero_le _, rfl, rfl⟩
                        case round =>
                          obtain ⟨rfl, i, hi, rfl, rfl⟩ := hrel
                          by_cases hik : i < k
                          · exact absurd (Nat.lt_of_le_of_lt (Nat.zero_le _) hik) hk0
                          · have hiz : ¬ (i : Int) < (k : Int) := by omega
                            go_wp2_with fail
                            go_ret
                            exact ⟨rfl, hbel⟩
                    · obtain ⟨hSe, rfl, hh⟩ := hyes rfl
                      clear hno hyes hSe
                      obtain ⟨rfl, rfl, rfl⟩ := hn (Or.inl rfl)
                      clear hy hn
                      have q0 := hq.c0
                      have q1 := hq.c1
                      have q2 := hq.c2
                      have q3 := hq.c3
                      simp only [if_true] at q2
                      clear hq
                      have h0 := hh.c0
                      have h1 := hh.c1
                      have h3 := hh.c3
                      have h4 := hh.c4
                      go_wp2_with (go_at_call 7; refine (load_any _ _ _ _ q2).mono ?_; rintro e W ⟨rfl, rfl⟩)
                      go_loopg [26, 27] k (fun g i t wx => W = wx ∧ ∃ j : Nat, j ≤ k ∧ g = k - j ∧ i = .int .i64 j)
                      case atStart => exact ⟨rfl, 0, Nat.zero_le _, rfl, rfl⟩
                      case round =>
                        obtain ⟨rfl, i, hi, rfl, rfl⟩ := hrel
                        by_cases hik : i < k
                        · have hiz : (i : Int) < (k : Int) := by omega
                          have d0 := (hmade i hik).c0
                          have d1 := (hmade i hik).c1
                          have d3 := (hmade i hik).c3
                          have d4 := (hmade i hik).c4
                          have e0 := htop.cell hik
                          by_cases hi1 : i + 1 < k
                          · have hi1z : (i : Int) + 1 < (k : Int) := by omega
                            have e1 := htop.cell hi1
                            rw [if_pos hi1] at d4
                            go_wp2_with fail
                            go_roundg (k - (i + 1))
                            case measure => go_light; omega
                            case rel => go_light; exact ⟨rfl, i + 1, by omega, rfl, by simp⟩
                          · have hi1z : ¬ (i : Int) + 1 < (k : Int) := by omega
                            rw [if_neg hi1] at d4
                            go_wp2_with fail
                            go_roundg (k - (i + 1))
                            case measure => go_light; omega
                            case rel => go_light; exact ⟨rfl, i + 1, by omega, rfl, by simp⟩
                        · have hiz : ¬ (i : Int) < (k : Int) := by omega
                          go_wp2_with fail
                          go_ret
                          exact ⟨rfl, hbel⟩
#print axioms walkC
end Go.Proofs.Ybulkegfy
