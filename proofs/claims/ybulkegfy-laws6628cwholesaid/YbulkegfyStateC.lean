import Derived.Test.YbulkegfyRecycle
namespace Go.Proofs.Ybulkegfy
open Go.RowKit Go.Deep

theorem Yba.info24 : (Yba.prog.info? 24).map (fun i => (i.zero, i.size, i.bytes)) = some (some (.pointer none), 1, 8) := by kernel_rfl

/-- The queue and its head, the first block behind them being S. -/
structure Base (w wr : World) (a0 : Bool) (hd : Option Addr) (S : Nat) (sp : Option Addr) : Prop where
  below : Below w.heap.size w wr
  lo : w.heap.size < S
  hi : S ≤ wr.heap.size
  q : Qu wr w.heap.size hd hd (if a0 then 1 else 0) sp
  yes : a0 = true → S = w.heap.size + 2 ∧ hd = some ⟨w.heap.size + 1, 0, none⟩ ∧ Wt wr (w.heap.size + 1) 7 false none none
  no : a0 = false → hd = none

section
variable {w wr : World} {a0 : Bool} {hd : Option Addr} {S : Nat} {sp : Option Addr}
theorem Base.alloc (h : Base w wr a0 hd S sp) (o : Obj) : Base w (wr.alloc o) a0 hd S sp :=
  ⟨h.below.alloc (by have := h.below.size; omega) o, h.lo, by have := h.hi; simp; omega, h.q.alloc o, fun e => ⟨(h.yes e).1, (h.yes e).2.1, (h.yes e).2.2.alloc o⟩, h.no⟩
theorem Base.drew (h : Base w wr a0 hd S sp) : Base w wr.drew a0 hd S sp := ⟨h.below.drew, h.lo, h.hi, h.q, h.yes, h.no⟩
theorem Base.other (h : Base w wr a0 hd S sp) {a : Addr} (ha : S ≤ a.block) (v : Value) : Base w (wr.setCell a v) a0 hd S sp :=
  ⟨h.below.setCell (by have := h.lo; omega) v, h.lo, by rw [nblk_setCell]; exact h.hi, h.q.other (by have := h.lo; omega) v,
    fun e => ⟨(h.yes e).1, (h.yes e).2.1, (h.yes e).2.2.other (by have := (h.yes e).1; omega) v⟩, h.no⟩
theorem Base.spare (h : Base w wr a0 hd S sp) (x : Option Addr) : Base w (wr.setCell ⟨w.heap.size, 3, none⟩ (.pointer x)) a0 hd S x :=
  ⟨h.below.setCell (Nat.le_refl _) _, h.lo, by rw [nblk_setCell]; exact h.hi, h.q.set3 x,
    fun e => ⟨(h.yes e).1, (h.yes e).2.1, (h.yes e).2.2.other (by show w.heap.size + 1 ≠ w.heap.size; omega) _⟩, h.no⟩
end

theorem base_yes (w : World) : Base w ((w.alloc (.cells #[.pointer (some ⟨w.heap.size + 1, 0, none⟩), .pointer (some ⟨w.heap.size + 1, 0, none⟩), .int .i64 1, .pointer none] 34)).alloc (.cells #[.int .i64 7, .bool false, .chan none, .pointer none, .pointer none] 27)) true (some ⟨w.heap.size + 1, 0, none⟩) (w.heap.size + 2) none := by
  have hq := Qu.new w (some ⟨w.heap.size + 1, 0, none⟩) (some ⟨w.heap.size + 1, 0, none⟩) 1 none
  have hb := Wt.new (w.alloc (.cells #[.pointer (some ⟨w.heap.size + 1, 0, none⟩), .pointer (some ⟨w.heap.size + 1, 0, none⟩), .int .i64 1, .pointer none] 34)) 7 false none none
  rw [nblk_alloc] at hb
  exact ⟨((Below.refl _ _).alloc (Nat.le_refl _) _).alloc (by simp) _, by omega, by simp, hq.alloc _, fun _ => ⟨rfl, rfl, hb⟩, fun e => by cases e⟩

theorem base_no (w : World) : Base w (w.alloc (.cells #[.pointer none, .pointer none, .int .i64 0, .pointer none] 34)) false none (w.heap.size + 1) none :=
  ⟨(Below.refl _ _).alloc (Nat.le_refl _) _, by omega, by simp, Qu.new w none none 0 none, (fun e => by cases e), fun _ => rfl⟩

/-- k spares are made. -/
structure LA (w wr : World) (a0 : Bool) (hd : Option Addr) (S n k : Nat) : Prop where
  base : Base w wr a0 hd S none
  size : wr.heap.size = S + 1 + k
  top : wr.rowIs S 24 n (fun j => if j < k then .pointer (some ⟨S + 1 + j, 0, none⟩) else .pointer none)
  made : ∀ j, j < k → Wt wr (S + 1 + j) (j : Int) false none none

theorem la_start {w wr : World} {a0 : Bool} {hd : Option Addr} {S : Nat} (h : Base w wr a0 hd S none) (hs : wr.heap.size = S) (n : Nat) :
    LA w (wr.alloc (.cells (madeCells #[.pointer none] n) 24)) a0 hd S n 0 := by
  subst hs
  exact ⟨h.alloc _, by simp, (World.rowIs_made wr _ n 24).congr (fun j _ => by simp), fun j hj => absurd hj (Nat.not_lt_zero _)⟩

theorem la_step {w wr : World} {a0 : Bool} {hd : Option Addr} {S n k : Nat} (h : LA w wr a0 hd S n k) :
    LA w ((wr.alloc (.cells #[.int .i64 k, .bool false, .chan none, .pointer none, .pointer none] 27)).setCell ⟨S, k, none⟩ (.pointer (some ⟨S + 1 + k, 0, none⟩))) a0 hd S n (k + 1) := by
  have hn := Wt.new wr k false none none
  rw [h.size] at hn
  refine ⟨(h.base.alloc _).other (Nat.le_refl _) _, by simp [h.size]; omega, ((h.top.alloc _).set k _).congr (fun j _ => ?_), fun j hj => ?_⟩
  · by_cases e : j = k
    · subst e; simp
    · rw [if_neg e]
      by_cases hlt : j < k
      · rw [if_pos hlt, if_pos (by omega)]
      · rw [if_neg hlt, if_neg (by omega)]
  · by_cases e : j = k
    · subst e; exact hn.other (by show S + 1 + j ≠ S; omega) _
    · exact ((h.made j (by omega)).alloc _).other (by show S + 1 + j ≠ S; omega) _

/-- The spares are made, k of them are linked to the next. -/
structure LB (w wr : World) (a0 : Bool) (hd : Option Addr) (S n : Nat) (sp : Option Addr) (k : Nat) : Prop where
  base : Base w wr a0 hd S sp
  size : S + 1 + n ≤ wr.heap.size
  top : wr.rowIs S 24 n (fun j => .pointer (some ⟨S + 1 + j, 0, none⟩))
  made : ∀ j, j < n → Wt wr (S + 1 + j) (j : Int) false none (if j < k ∧ j + 1 < n then some ⟨S + 1 + (j + 1), 0, none⟩ else none)

theorem lb_start {w wr : World} {a0 : Bool} {hd : Option Addr} {S n : Nat} (h : LA w wr a0 hd S n n) : LB w wr a0 hd S n none 0 :=
  ⟨h.base, by have := h.size; omega, h.top.congr (fun j hj => by rw [if_pos hj]), fun j hj => by simpa using h.made j hj⟩

theorem lb_step {w wr : World} {a0 : Bool} {hd : Option Addr} {S n : Nat} {sp : Option Addr} {k : Nat} (h : LB w wr a0 hd S n sp k) (hk : k + 1 < n) :
    LB w (wr.setCell ⟨S + 1 + k, 4, none⟩ (.pointer (some ⟨S + 1 + (k + 1), 0, none⟩))).drew a0 hd S n sp (k + 1) := by
  refine ⟨(h.base.other (by show S ≤ S + 1 + k; omega) _).drew, by show _ ≤ (wr.setCell _ _).heap.size; rw [nblk_setCell]; exact h.size, (h.top.setOther (by show S ≠ S + 1 + k; omega) _).drew, fun j hj => ?_⟩
  by_cases e : j = k
  · subst e
    have := (h.made j hj).set4 (some ⟨S + 1 + (j + 1), 0, none⟩)
    rw [if_pos (by omega)]
    exact this
  · have := (h.made j hj).other (a := ⟨S + 1 + k, 4, none⟩) (by show S + 1 + j ≠ S + 1 + k; omega) (.pointer (some ⟨S + 1 + (k + 1), 0, none⟩))
    by_cases hlt : j < k
    · have e1 : (if j < k ∧ j + 1 < n then (some ⟨S + 1 + (j + 1), 0, none⟩ : Option Addr) else none) = if j < k + 1 ∧ j + 1 < n then some ⟨S + 1 + (j + 1), 0, none⟩ else none := by
        by_cases h2 : j + 1 < n
        · rw [if_pos ⟨hlt, h2⟩, if_pos ⟨by omega, h2⟩]
        · rw [if_neg (by omega), if_neg (by omega)]
      rw [e1] at this
      exact this
    · rw [if_neg (by omega)] at this
      rw [if_neg (by omega)]
      exact this

/-- All is linked. -/
structure LC (w wr : World) (a0 : Bool) (hd : Option Addr) (S n : Nat) (sp : Option Addr) : Prop where
  base : Base w wr a0 hd S sp
  size : S + 1 + n ≤ wr.heap.size
  top : wr.rowIs S 24 n (fun j => .pointer (some ⟨S + 1 + j, 0, none⟩))
  made : ∀ j, j < n → Wt wr (S + 1 + j) (j : Int) false none (if j + 1 < n then some ⟨S + 1 + (j + 1), 0, none⟩ else none)

theorem lc_start {w wr : World} {a0 : Bool} {hd : Option Addr} {S n : Nat} {sp : Option Addr} {k : Nat} (h : LB w wr a0 hd S n sp k) (hk : n ≤ k + 1) : LC w wr a0 hd S n sp :=
  ⟨h.base, h.size, h.top, fun j hj => by
    have := h.made j hj
    by_cases h2 : j + 1 < n
    · rw [if_pos (by omega)] at this; rw [if_pos h2]; exact this
    · rw [if_neg (by omega)] at this; rw [if_neg h2]; exact this⟩

section
variable {w wr : World} {a0 : Bool} {hd : Option Addr} {S n : Nat} {sp : Option Addr}
theorem LC.alloc (h : LC w wr a0 hd S n sp) (o : Obj) : LC w (wr.alloc o) a0 hd S n sp :=
  ⟨h.base.alloc o, by have := h.size; simp; omega, h.top.alloc o, fun j hj => (h.made j hj).alloc o⟩
theorem LC.other (h : LC w wr a0 hd S n sp) {a : Addr} (ha : S + 1 + n ≤ a.block) (v : Value) : LC w (wr.setCell a v) a0 hd S n sp :=
  ⟨h.base.other (by omega) v, by rw [nblk_setCell]; exact h.size, h.top.setOther (by omega) v, fun j hj => (h.made j hj).other (by omega) v⟩
theorem LC.spare (h : LC w wr a0 hd S n sp) (x : Option Addr) : LC w (wr.setCell ⟨w.heap.size, 3, none⟩ (.pointer x)) a0 hd S n x :=
  ⟨h.base.spare x, by rw [nblk_setCell]; exact h.size, h.top.setOther (by have := h.base.lo; show S ≠ w.heap.size; omega) _, fun j hj => (h.made j hj).other (by have := h.base.lo; show S + 1 + j ≠ w.heap.size; omega) _⟩
end

def spOf (S n : Nat) : Option Addr := if 0 < n then some ⟨S + 1, 0, none⟩ else none

/-- The three last waiters are made. -/
structure LD (w wr : World) (a0 : Bool) (hd : Option Addr) (S n : Nat) (sp : Option Addr) (J : Nat) (a2 : Int) (a3 : Bool) (pv nx : Option Addr) : Prop where
  lc : LC w wr a0 hd S n sp
  lo : S + 1 + n ≤ J
  jn : Wt wr J (-1) false none none
  jp : Wt wr (J + 1) (-2) false none none
  me : Wt wr (J + 2) a2 a3 pv nx

section
variable {w wr : World} {a0 : Bool} {hd : Option Addr} {S n : Nat} {sp : Option Addr} {J : Nat} {a2 : Int} {a3 : Bool} {pv nx : Option Addr}
theorem ld_start (h : LC w wr a0 hd S n sp) (hJ : wr.heap.size = J) (a2 : Int) (a3 : Bool) (nx : Option Addr) :
    LD w (((wr.alloc (.cells #[.int .i64 (-1), .bool false, .chan none, .pointer none, .pointer none] 27)).alloc (.cells #[.int .i64 (-2), .bool false, .chan none, .pointer none, .pointer none] 27)).alloc
      (.cells #[.int .i64 a2, .bool a3, .chan none, .pointer none, .pointer nx] 27)) a0 hd S n sp J a2 a3 none nx := by
  subst hJ
  have h1 := Wt.new wr (-1) false none none
  have h2 := Wt.new (wr.alloc (.cells #[.int .i64 (-1), .bool false, .chan none, .pointer none, .pointer none] 27)) (-2) false none none
  have h3 := Wt.new ((wr.alloc (.cells #[.int .i64 (-1), .bool false, .chan none, .pointer none, .pointer none] 27)).alloc (.cells #[.int .i64 (-2), .bool false, .chan none, .pointer none, .pointer none] 27)) a2 a3 none nx
  rw [nblk_alloc] at h2
  rw [nblk_alloc, nblk_alloc] at h3
  exact ⟨((h.alloc _).alloc _).alloc _, h.size, (h1.alloc _).alloc _, h2.alloc _, h3⟩
theorem LD.next (h : LD w wr a0 hd S n sp J a2 a3 pv nx) (x : Option Addr) : LD w (wr.setCell ⟨J + 2, 4, none⟩ (.pointer x)) a0 hd S n sp J a2 a3 pv x :=
  ⟨h.lc.other (by have := h.lo; show _ ≤ J + 2; omega) _, h.lo, h.jn.other (by show J ≠ J + 2; omega) _, h.jp.other (by show J + 1 ≠ J + 2; omega) _, h.me.set4 x⟩
theorem LD.prev (h : LD w wr a0 hd S n sp J a2 a3 pv nx) (x : Option Addr) : LD w (wr.setCell ⟨J + 2, 3, none⟩ (.pointer x)) a0 hd S n sp J a2 a3 x nx :=
  ⟨h.lc.other (by have := h.lo; show _ ≤ J + 2; omega) _, h.lo, h.jn.other (by show J ≠ J + 2; omega) _, h.jp.other (by show J + 1 ≠ J + 2; omega) _, h.me.set3 x⟩
theorem LD.adm (h : LD w wr a0 hd S n sp J a2 a3 pv nx) (x : Bool) : LD w (wr.setCell ⟨J + 2, 1, none⟩ (.bool x)) a0 hd S n sp J a2 x pv nx :=
  ⟨h.lc.other (by have := h.lo; show _ ≤ J + 2; omega) _, h.lo, h.jn.other (by show J ≠ J + 2; omega) _, h.jp.other (by show J + 1 ≠ J + 2; omega) _, h.me.set1 x⟩
theorem LD.spare (h : LD w wr a0 hd S n sp J a2 a3 pv nx) (x : Option Addr) : LD w (wr.setCell ⟨w.heap.size, 3, none⟩ (.pointer x)) a0 hd S n x J a2 a3 pv nx :=
  ⟨h.lc.spare x, h.lo, h.jn.other (by have := h.lo; have := h.lc.base.lo; show J ≠ w.heap.size; omega) _, h.jp.other (by have := h.lo; have := h.lc.base.lo; show J + 1 ≠ w.heap.size; omega) _,
    h.me.other (by have := h.lo; have := h.lc.base.lo; show J + 2 ≠ w.heap.size; omega) _⟩
end
end Go.Proofs.Ybulkegfy
