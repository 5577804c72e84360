import Derived.Test.YbulkegfyStateA
import Derived.Test.YbulkegfyEqls
import Derived.Deep.LoopGhost
import Derived.Deep.Cut
import Derived.Deep.Light
import Derived.Deep.CutRange
import Derived.Deep.DeepAppendRoom
import Derived.Deep.QuietTactic
import Derived.BigQuiet
import Derived.BigGuard
import Derived.WalkSmall
namespace Go.Proofs.Ybulkegfy
open Go.RowKit Go.Deep

theorem Yba.info24a : (Yba.prog.info? 24).map (fun i => (i.zero, i.size, i.bytes)) = some (some (.pointer none), 1, 8) := by kernel_rfl

set_option maxRecDepth 100000 in
theorem walkA_long (ao : Option Addr) (n cap : Nat) (a1 : Int) (a2 : Bool) (a3 : Int) (a4 : Bool) (w : World) (hn : (65536 : Int) < n) :
    Calls Yba.prog 3 #[.slice ao n cap, .int .i64 a1, .bool a2, .int .i64 a3, .bool a4] w fun e w' => e = .returned (.bool true) ∧ Below w.heap.size w w' := by
  go_enter Yba.func3, Yba.ntmps3
  go_wp2_with fail
  go_ret
  exact ⟨rfl, Below.refl _ _⟩

set_option maxHeartbeats 4000000 in
set_option maxRecDepth 100000 in
theorem walkA (ao : Option Addr) (gb go n cap : Nat) (Z : Nat → Int) (a1 : Int) (a2 : Bool) (a3 : Int) (a4 : Bool) (w : World) (hn : (n : Int) ≤ 65536) (hga : Hid (0 < n → ao = some ⟨gb, go, none⟩))
    (hcell : ∀ i, i < n → w.cell? ⟨gb, go + i, none⟩ = some (.int .i64 (Z i))) :
    Calls Yba.prog 3 #[.slice ao n cap, .int .i64 a1, .bool a2, .int .i64 a3, .bool a4] w fun e w' => e = .returned (.bool true) ∧ Below w.heap.size w w' := by
  have hmk := run_make_row' (P := Yba.prog) 23 24 (.pointer none) 8 Yba.underlying23 Yba.info24a rfl .i64 .i64 n (by omega) (by omega)
  have hn' : ¬ (65536 : Int) < n := by omega
  go_enter Yba.func3, Yba.ntmps3
  go_wp2_with fail
  clear hmk hn'
  go_loopg [12, 30] n (fun g i s wr => ∃ k : Nat, k ≤ n ∧ g = n - k ∧ s = .int .i64 k ∧ NA w wr n Z k)
  case atStart => exact ⟨0, Nat.zero_le _, rfl, rfl, na_start w n Z⟩
  case round =>
    obtain ⟨k, hk, rfl, rfl, hA⟩ := hrel
    by_cases hkn : k < n
    · have hkz : (k : Int) < (n : Int) := by omega
      obtain rfl := hga.out (by omega)
      have hsz := hA.size
      have hgb : gb < w.heap.size := World.block_lt_of_cell? _ _ (hcell k hkn)
      have g0 : wr.cell? ⟨gb, go + k, none⟩ = some (.int .i64 (Z k)) := by rw [hA.below.cell (p := ⟨gb, go + k, none⟩) hgb]; exact hcell k hkn
      have t0 : ∀ o, (wr.alloc o).cell? ⟨w.heap.size, k, none⟩ = some (.pointer none) := fun o => by rw [(hA.top.alloc o).cell hkn, if_neg (Nat.lt_irrefl _)]
      have t1 : ∀ o, (wr.alloc o).frozen? ⟨w.heap.size, k, none⟩ = false := fun o => (hA.top.alloc o).frozen k
      go_wp2_with fail
      go_roundg (n - (k + 1))
      case measure => go_light; omega
      case rel => go_light; exact ⟨k + 1, by omega, rfl, by simp, na_step hA⟩
    · have hkz : ¬ (k : Int) < (n : Int) := by omega
      obtain rfl : k = n := by omega
      have hB0 := nb_start hA
      clear hA
      go_wp2_with fail
      go_loopg [13] k (fun g i wx => ∃ m : Nat, (m + 1 ≤ k ∨ k = 0) ∧ g = k - m ∧ m ≤ k ∧ i = .int .i64 ((m : Int) + 1) ∧ NB w wx k Z m)
      case atStart => exact ⟨0, by omega, rfl, Nat.zero_le _, rfl, hB0⟩
      case round =>
        obtain ⟨m, hm, rfl, hmk', rfl, hL⟩ := hrel
        clear hB0
        by_cases hjk : m + 1 < k
        · have hjz : (m : Int) + 1 < (k : Int) := by omega
          have t0 := hL.top.cell (i := m) (by omega)
          have t1 := hL.top.cell (i := m + 1) hjk
          have t2 := (hL.made (m + 1) hjk).c3
          rw [if_neg (by omega)] at t2
          have t3 := (hL.made (m + 1) hjk).fz 3
          have hT := hL.top.setOther (a := ⟨w.heap.size + 1 + (m + 1), 3, none⟩) (by show w.heap.size ≠ w.heap.size + 1 + (m + 1); omega) (.pointer (some ⟨w.heap.size + 1 + m, 0, none⟩))
          have y0 := hT.cell (i := m) (by omega)
          have y1 := hT.cell (i := m + 1) hjk
          have hM := (hL.made m (by omega)).other (a := ⟨w.heap.size + 1 + (m + 1), 3, none⟩) (by show w.heap.size + 1 + m ≠ w.heap.size + 1 + (m + 1); omega) (.pointer (some ⟨w.heap.size + 1 + m, 0, none⟩))
          have y4 := hM.c4
          rw [if_neg (by omega)] at y4
          have y5 := hM.fz 4
          clear hT hM
          go_wp2_with fail
          go_region
          go_wp2_with fail
          go_region
          go_wp2_with fail
          go_roundg (k - (m + 1))
          case measure => go_light; omega
          case rel => go_light; exact ⟨m + 1, by omega, rfl, by omega, by simp, (nb_step hL).drew.drew⟩
        · have hjz : ¬ (m : Int) + 1 < (k : Int) := by omega
          have hC0 := nc_start hL hm (by omega)
          have hQ0 := hL.size
          clear hL
          obtain ⟨Q, hQe⟩ : ∃ Q, w.heap.size + 1 + k = Q := ⟨_, rfl⟩
          have hsz : wr.heap.size = Q := by omega
          have hQlo : w.heap.size + 1 + k ≤ Q := by omega
          clear hQ0
          clear hQe
          go_upto_if 73 with fail
          go_cut [] from 43 to 84 (fun wx => NC w wx k Z none ∧ Qu wx Q (hdA w.heap.size k) (tlA w.heap.size k) 0 none ∧ wx.heap.size = Q + 1)
          case first =>
            by_cases hk0 : 0 < k
            · have hk0z : 0 < (k : Int) := by omega
              have he : (k : Int) - 1 = ((k - 1 : Nat) : Int) := by omega
              have t0 := (hC0.alloc (.cells #[.pointer none, .pointer none, .int .i64 0, .pointer none] 34)).top.cell hk0
              have t1 : ∀ o, (wr.alloc o).cell? ⟨w.heap.size, k - 1, none⟩ = some (.pointer (some ⟨w.heap.size + 1 + (k - 1), 0, none⟩)) := fun o => (hC0.alloc o).top.cell (i := k - 1) (by omega)
              have hb : w.heap.size < Q := by omega
              have hb1 : ((k - 1 : Nat) : Int) < (k : Int) := by omega
              have hb0 : (0 : Int) ≤ ((k - 1 : Nat) : Int) := by omega
              have hb2 : k - 1 < k := by omega
              go_wp2_with fail
              go_meet
              refine ⟨hC0.alloc _, ?_, by rw [nblk_alloc, hsz]⟩
              rw [hdA, if_pos hk0, tlA, if_pos hk0]
              have := Qu.new wr (some ⟨w.heap.size + 1, 0, none⟩) (some ⟨w.heap.size + 1 + (k - 1), 0, none⟩) 0 none
              rw [hsz] at this
              exact this
            · have hk0z : ¬ 0 < (k : Int) := by omega
              go_wp2_with fail
              go_meet
              obtain rfl : k = 0 := by omega
              refine ⟨hC0.alloc _, ?_, by rw [nblk_alloc, hsz]⟩
              have := Qu.new wr none none 0 none
              rw [hsz] at this
              exact this
          case rest =>
            clear hC0 hsz
            obtain ⟨hC1, hq1, hsz1⟩ := hcut
            have t2 := hq1.c2
            have z2 := hq1.fz 2
            go_upto_if 88 with (go_at_call 5; refine (store_any _ _ _ _ _ t2 z2).mono ?_; rintro e w' ⟨rfl, rfl⟩)
            clear t2 z2
            have hC2 := hC1.other (a := ⟨Q, 2, none⟩) hQlo (.int .i64 a3)
            have hq2 := hq1.set2 a3
            have hsz2 : (wc.setCell ⟨Q, 2, none⟩ (.int .i64 a3)).heap.size = Q + 1 := by rw [nblk_setCell, hsz1]
            clear hC1 hq1 hsz1
            generalize wc.setCell ⟨Q, 2, none⟩ (.int .i64 a3) = W2 at *
            go_cut [15] from 71 to 92 (fun s15 wx => ∃ sp, s15 = .pointer sp ∧ NC w wx k Z none ∧ Qu wx Q (hdA w.heap.size k) (tlA w.heap.size k) a3 sp ∧ SpOk wx Q sp ∧ Q < wx.heap.size ∧ (wx.heap.size ≠ Q + 1 ∨ sp = none))
            case first =>
              cases a4
              · go_wp2_with fail
                go_meet
                exact ⟨none, rfl, hC2, hq2, .inl rfl, by omega, .inr rfl⟩
              · have t3 := fun o => (hq2.alloc o).c3
                have z3 := fun o => (hq2.alloc o).fz 3
                go_wp2_with fail
                go_meet
                have hnew := Wt.new (W2.setCell ⟨Q, 3, none⟩ (.pointer (some ⟨Q + 1, 0, none⟩))) 7 false none none
                rw [nblk_setCell, hsz2] at hnew
                exact ⟨_, rfl, (hC2.other (a := ⟨Q, 3, none⟩) hQlo _).alloc _, (hq2.set3 _).alloc _, .inr ⟨rfl, hnew⟩, by rw [nblk_alloc, nblk_setCell, hsz2]; omega, .inl (by rw [nblk_alloc, nblk_setCell, hsz2]; omega)⟩
            case rest =>
              clear hC2 hq2 hsz2
              obtain ⟨sp, rfl, hC3, hq3, hs3, hlo3, hsep3⟩ := hcut
              obtain ⟨M, hM⟩ : ∃ M, wc.heap.size = M := ⟨_, rfl⟩
              rw [hM] at hlo3 hsep3
              have HS : Hid (M ≠ Q + 1 ∨ sp = none) := hsep3
              clear hsep3
              have hme := Wt.new wc a1 a2 none none
              rw [hM] at hme
              have hC4 := hC3.alloc (.cells #[.int .i64 a1, .bool a2, .chan none, .pointer none, .pointer none] 27)
              have hq4 := hq3.alloc (.cells #[.int .i64 a1, .bool a2, .chan none, .pointer none, .pointer none] 27)
              have hs4 := hs3.alloc (.cells #[.int .i64 a1, .bool a2, .chan none, .pointer none, .pointer none] 27)
              clear hC3 hq3 hs3
              go_upto_region 24 with fail
              clear hM
              generalize wc.alloc (.cells #[.int .i64 a1, .bool a2, .chan none, .pointer none, .pointer none] 27) = W4 at *
              go_cut [] from 71 to 98 (fun wx => ND w wx k Z Q M a3 sp a1 a2)
              case first =>
                have hQM : Q ≠ M := by omega
                cases k with
                | zero =>
                  rw [hdA, if_neg (by omega), tlA, if_neg (by omega)] at hq4
                  go_wp2_with (go_at_call 6; refine (push_bare _ _ _ _ _ _ _ _ _ hQM hq4 hme).mono ?_; rintro e w' ⟨rfl, rfl⟩)
                  go_meet
                  exact nd_bare hC4 hq4 hme hs4 (by omega) hlo3 HS.out
                | succ p =>
                  rw [hdA, if_pos (by omega), tlA, if_pos (by omega), Nat.add_sub_cancel] at hq4
                  have hp := hC4.made p (by omega)
                  have hQt : Q ≠ w.heap.size + 1 + p := by omega
                  have htM : w.heap.size + 1 + p ≠ M := by omega
                  go_wp2_with (go_at_call 6; refine (push_tail _ _ _ _ _ _ _ _ _ _ _ _ _ _ _ hQM hQt htM hq4 hme hp).mono ?_; rintro e w' ⟨rfl, rfl⟩)
                  go_meet
                  exact nd_tail hC4 hq4 hme hs4 hQlo hlo3 HS.out
              case rest =>
                clear hC4 hq4 hs4 hme HS
                have hD := hcut
                clear hcut
                have hns := neq_self
                have hnc := neq_chan
                have q1 := hD.q.c1
                have q2 := hD.q.c2
                have q3 := hD.q.c3
                have m0 := hD.me.c0
                have m1 := hD.me.c1
                have m2 := hD.me.c2
                have m4 := hD.me.c4
                go_upto_region 27 with fail
                go_cut [138] from 99 to 138 (fun s138 wx => s138 = .bool false ∧ wc = wx)
                case first =>
                  rcases hD.spok with rfl | ⟨rfl, hsw⟩
                  · go_wp2_with fail
                    go_meet
                    exact ⟨rfl, rfl⟩
                  · have s0 := hsw.c0
                    have s1 := hsw.c1
                    have s2 := hsw.c2
                    have s3 := hsw.c3
                    have s4 := hsw.c4
                    go_wp2_with fail
                    go_meet
                    exact ⟨rfl, rfl⟩
                case rest =>
                  obtain ⟨rfl, rfl⟩ := hcut
                  obtain ⟨i0, hi, hz0, hz1, hz2⟩ := info_parts Yba.info24a
                  go_upto_region 33 with (go_at_call 7; refine (load_any _ _ _ _ q2).mono ?_; rintro e W5 ⟨rfl, rfl⟩)
                  clear q1 q2 q3 m0 m1 m2 m4
                  obtain ⟨G, hG⟩ : ∃ G, W5.heap.size = G := ⟨_, rfl⟩
                  have hMG : M < G := by have := hD.me.lt; omega
                  have hb1 : i0.bytes * (k + 1) ≤ 281474976710656 := by rw [hz2]; omega
                  have hb2 : k + 1 ≤ maxLen := by unfold maxLen; omega
                  go_upto_region 34 with (at_make; refine wpList_make_own _ rfl _ _ 23 rfl G 24 i0 (.pointer none) 1 Yba.underlying23 hi hz0 hz1 .i64 .i64 _ (k + 1) rfl rfl (by simp) hb1 hb2 (by rw [hG]; exact Nat.le_refl _) ?_; rw [hG]; intro W6 hown6 hg6)
                  clear hb1 hb2
                  have hD6 := hD.grown hg6 (fun k e => by cases e)
                  have hsz6 : G ≤ W6.heap.size := by have := hg6.size; omega
                  clear hg6 hD hG
                  have hnw : ∀ (j : Nat) (u : Value), (nodesA w.heap.size k)[j]? = some u → W6.cell? (Addr.add ⟨w.heap.size, 0, none⟩ j) = some u := fun j u hu => by
                    obtain ⟨hj, rfl⟩ := nodesA_get _ _ _ _ hu
                    rw [show Addr.add ⟨w.heap.size, 0, none⟩ j = ⟨w.heap.size, j, none⟩ from by by_cases e : j = 0 <;> simp [Addr.add, e]]
                    exact hD6.nc.top.cell hj
                  have Hnw := (show Hid _ from hnw)
                  clear hnw
                  go_upto_region 35 with (at_builtin; refine wpList_append_own_spare _ rfl (.tmp 182) (.tmp 183) 23 rfl G 24 i0 1 Yba.underlying23 hi hz1 G 0 (k + 1) [] rfl hown6 ⟨w.heap.size, 0, none⟩ k k (nodesA w.heap.size k) rfl (by rw [nodesA_len, Nat.mul_one]) Hnw.out (nodesA_one _ _) (by omega) ?_; intro W7 hown7 hg7; simp only [Nat.zero_add, List.nil_append] at hown7)
                  have hD7 := hD6.grown hg7 (fun k e => by cases e; exact hMG)
                  have hsz7 : G ≤ W7.heap.size := by have := hg7.size; omega
                  clear Hnw hown6 hg7 hD6 hsz6
                  go_upto_region 36 with (at_builtin; refine wpList_append_own_spare _ rfl (.tmp 185) (.tmp 187) 23 rfl G 24 i0 1 Yba.underlying23 hi hz1 G k (k + 1) _ rfl (hown7.alloc _) ⟨W7.heap.size, 0, none⟩ 1 1 [.pointer (some ⟨M, 0, none⟩)] rfl rfl (cell_one_new _ _ _) (by intro u hu; simp at hu; subst hu; rfl) (by omega) ?_; intro W8 hown8 hg8)
                  have hD8 := (hD7.alloc _).grown hg8 (fun k e => by cases e; exact hMG)
                  have hall : ∀ j, j < k + 1 → W8.cell? ⟨G, j, none⟩ = some (.pointer (allA w.heap.size k M j)) := fun j hj => all_cell hown8 hj
                  clear hD7 hsz7 hown7 hown8 hg8
                  have q0 := hD8.q.c0
                  rw [hdP_eq] at q0
                  have a0c := hall 0 (by omega)
                  have hbel := hD8.nc.below
                  have hmade := hD8.nc.made
                  have hme := hD8.me
                  clear hD8
                  have Hall := (show Hid _ from hall)
                  have Hmade := (show Hid _ from hmade)
                  have Hcell := (show Hid _ from hcell)
                  clear hall hmade hcell
                  have hkb : (0 : Int) < (k : Int) + 1 := by omega
                  go_quiet (fail)
                  go_wp2_with fail
                  go_loopg [19, 20, 21] (k + 1) (fun g i t v wx => (∃ nq, wx = W8.drewN nq) ∧ ∃ j : Nat, j ≤ k + 1 ∧ g = k + 1 - j ∧ i = .int .i64 j)
                  case atStart => exact ⟨⟨_, rfl⟩, 0, Nat.zero_le _, rfl, rfl⟩
                  case round =>
                    obtain ⟨⟨nq, rfl⟩, i, hi1, rfl, rfl⟩ := hrel
                    by_cases hik : i < k + 1
                    · have hiz : (i : Int) ≤ (k : Int) := by omega
                      by_cases hlt : i < k
                      · have hltz : (i : Int) < (k : Int) := by omega
                        obtain rfl := hga.out (by omega)
                        have x0 := Hall.out i hik
                        rw [allA, if_pos hlt] at x0
                        have x1 := Hall.out (i + 1) (by omega)
                        have hw := Hmade.out i hlt
                        have c0 := hw.c0
                        have c1 := hw.c1
                        have c2 := hw.c2
                        have c3 := hw.c3
                        have c4 := hw.c4
                        rw [show (if i + 1 < k then some ⟨w.heap.size + 1 + (i + 1), 0, none⟩ else some ⟨M, 0, none⟩) = allA w.heap.size k M (i + 1) from rfl] at c4
                        have hgb : gb < w.heap.size := World.block_lt_of_cell? _ _ (Hcell.out i hlt)
                        have g0 : W8.cell? ⟨gb, go + i, none⟩ = some (.int .i64 (Z i)) := by rw [hbel.cell (p := ⟨gb, go + i, none⟩) hgb]; exact Hcell.out i hlt
                        clear hw
                        by_cases hi0 : 0 < i
                        · have hi0z : 0 < (i : Int) := by omega
                          have he : (i : Int) - 1 = ((i - 1 : Nat) : Int) := by omega
                          have hb1 : ((i - 1 : Nat) : Int) < (k : Int) + 1 := by omega
                          have hb2 : i - 1 < k + 1 := by omega
                          have x2 := Hall.out (i - 1) (by omega)
                          rw [allA, if_pos (by omega)] at x2
                          rw [if_pos hi0] at c3
                          go_wp2_with fail
                          go_quiet (fail)
                          go_wp2_with fail
                          go_roundg (k + 1 - (i + 1))
                          case measure => go_light; omega
                          case rel => go_light; exact ⟨⟨_, rfl⟩, i + 1, by omega, rfl, by simp⟩
                        · have hi0z : ¬ 0 < (i : Int) := by omega
                          rw [if_neg hi0] at c3
                          go_wp2_with fail
                          go_quiet (fail)
                          go_wp2_with fail
                          go_roundg (k + 1 - (i + 1))
                          case measure => go_light; omega
                          case rel => go_light; exact ⟨⟨_, rfl⟩, i + 1, by omega, rfl, by simp⟩
                      · have hltz : ¬ (i : Int) < (k : Int) := by omega
                        have hdz : decide ((i : Int) < (k : Int)) = false := by simp; omega
                        obtain rfl : i = k := by omega
                        have x0 := Hall.out i hik
                        rw [allA, if_neg hlt] at x0
                        have c3 := hme.c3
                        have c4 := hme.c4
                        by_cases hi0 : 0 < i
                        · have hi0z : 0 < (i : Int) := by omega
                          have he : (i : Int) - 1 = ((i - 1 : Nat) : Int) := by omega
                          have hb1 : ((i - 1 : Nat) : Int) < (i : Int) + 1 := by omega
                          have hb2 : i - 1 < i + 1 := by omega
                          have x2 := Hall.out (i - 1) (by omega)
                          rw [allA, if_pos (by omega)] at x2
                          rw [tlA, if_pos hi0] at c3
                          go_wp2_with fail
                          go_quiet (fail)
                          go_wp2_with fail
                          go_roundg (i + 1 - (i + 1))
                          case measure => go_light; omega
                          case rel => go_light; exact ⟨⟨_, rfl⟩, i + 1, by omega, rfl, by simp⟩
                        · have hi0z : ¬ 0 < (i : Int) := by omega
                          rw [tlA, if_neg hi0] at c3
                          go_wp2_with fail
                          go_quiet (fail)
                          go_wp2_with fail
                          go_roundg (i + 1 - (i + 1))
                          case measure => go_light; omega
                          case rel => go_light; exact ⟨⟨_, rfl⟩, i + 1, by omega, rfl, by simp⟩
                    · have hiz : ¬ (i : Int) ≤ (k : Int) := by omega
                      go_wp2_with fail
                      go_ret
                      exact ⟨rfl, below_drewN hbel _⟩
#print axioms walkA
end Go.Proofs.Ybulkegfy
