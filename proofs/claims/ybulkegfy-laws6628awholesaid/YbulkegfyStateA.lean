import Derived.Test.YbulkegfyPush
namespace Go.Proofs.Ybulkegfy
open Go.RowKit Go.Deep

/-- k nodes are made. -/
structure NA (w wr : World) (n : Nat) (Z : Nat → Int) (k : Nat) : Prop where
  below : Below w.heap.size w wr
  size : wr.heap.size = w.heap.size + 1 + k
  top : wr.rowIs w.heap.size 24 n (fun j => if j < k then .pointer (some ⟨w.heap.size + 1 + j, 0, none⟩) else .pointer none)
  made : ∀ j, j < k → Wt wr (w.heap.size + 1 + j) (Z j) false none none

theorem na_start (w : World) (n : Nat) (Z : Nat → Int) : NA w (w.alloc (.cells (madeCells #[.pointer none] n) 24)) n Z 0 :=
  ⟨(Below.refl _ _).alloc (Nat.le_refl _) _, by simp, (World.rowIs_made w _ n 24).congr (fun j _ => by simp), fun j hj => absurd hj (Nat.not_lt_zero _)⟩

theorem na_step {w wr : World} {n : Nat} {Z : Nat → Int} {k : Nat} (h : NA w wr n Z k) :
    NA w ((wr.alloc (.cells #[.int .i64 (Z k), .bool false, .chan none, .pointer none, .pointer none] 27)).setCell ⟨w.heap.size, k, none⟩ (.pointer (some ⟨w.heap.size + 1 + k, 0, none⟩))) n Z (k + 1) := by
  have hn := Wt.new wr (Z k) false none none
  rw [h.size] at hn
  refine ⟨(h.below.alloc (by have := h.size; omega) _).setCell (Nat.le_refl _) _, by simp [h.size]; omega, ((h.top.alloc _).set k _).congr (fun j _ => ?_), fun j hj => ?_⟩
  · by_cases e : j = k
    · subst e; simp
    · rw [if_neg e]
      by_cases hlt : j < k
      · rw [if_pos hlt, if_pos (by omega)]
      · rw [if_neg hlt, if_neg (by omega)]
  · by_cases e : j = k
    · subst e; exact hn.other (by show w.heap.size + 1 + j ≠ w.heap.size; omega) _
    · exact ((h.made j (by omega)).alloc _).other (by show w.heap.size + 1 + j ≠ w.heap.size; omega) _

/-- The nodes up to m are linked. -/
structure NB (w wr : World) (n : Nat) (Z : Nat → Int) (m : Nat) : Prop where
  below : Below w.heap.size w wr
  size : wr.heap.size = w.heap.size + 1 + n
  top : wr.rowIs w.heap.size 24 n (fun j => .pointer (some ⟨w.heap.size + 1 + j, 0, none⟩))
  made : ∀ j, j < n → Wt wr (w.heap.size + 1 + j) (Z j) false (if 0 < j ∧ j < m + 1 then some ⟨w.heap.size + 1 + (j - 1), 0, none⟩ else none) (if j < m then some ⟨w.heap.size + 1 + (j + 1), 0, none⟩ else none)

theorem nb_start {w wr : World} {n : Nat} {Z : Nat → Int} (h : NA w wr n Z n) : NB w wr n Z 0 :=
  ⟨h.below, h.size, h.top.congr (fun j hj => by rw [if_pos hj]), fun j hj => by
    rw [if_neg (by omega), if_neg (by omega)]; exact h.made j hj⟩

theorem nb_step {w wr : World} {n : Nat} {Z : Nat → Int} {m : Nat} (h : NB w wr n Z m) :
    NB w ((wr.setCell ⟨w.heap.size + 1 + (m + 1), 3, none⟩ (.pointer (some ⟨w.heap.size + 1 + m, 0, none⟩))).setCell ⟨w.heap.size + 1 + m, 4, none⟩ (.pointer (some ⟨w.heap.size + 1 + (m + 1), 0, none⟩))) n Z (m + 1) := by
  refine ⟨(h.below.setCell (by show _ ≤ w.heap.size + 1 + (m + 1); omega) _).setCell (by show _ ≤ w.heap.size + 1 + m; omega) _, by rw [nblk_setCell, nblk_setCell]; exact h.size,
    (h.top.setOther (by show w.heap.size ≠ w.heap.size + 1 + (m + 1); omega) _).setOther (by show w.heap.size ≠ w.heap.size + 1 + m; omega) _, fun j hj => ?_⟩
  have hj0 := h.made j hj
  by_cases e : j = m + 1
  · subst e
    have h1 := (hj0.set3 (some ⟨w.heap.size + 1 + m, 0, none⟩)).other (a := ⟨w.heap.size + 1 + m, 4, none⟩) (by show w.heap.size + 1 + (m + 1) ≠ w.heap.size + 1 + m; omega) (.pointer (some ⟨w.heap.size + 1 + (m + 1), 0, none⟩))
    rw [if_neg (by omega)] at h1
    rw [if_pos (by omega), if_neg (by omega)]
    exact h1
  · have h1 := hj0.other (a := ⟨w.heap.size + 1 + (m + 1), 3, none⟩) (by show w.heap.size + 1 + j ≠ w.heap.size + 1 + (m + 1); omega) (.pointer (some ⟨w.heap.size + 1 + m, 0, none⟩))
    by_cases e' : j = m
    · subst e'
      have h2 := h1.set4 (some ⟨w.heap.size + 1 + (j + 1), 0, none⟩)
      by_cases h0 : 0 < j
      · rw [if_pos (by omega)] at h2
        rw [if_pos (by omega), if_pos (by omega)]
        exact h2
      · rw [if_neg (by omega)] at h2
        rw [if_neg (by omega), if_pos (by omega)]
        exact h2
    · have h2 := h1.other (a := ⟨w.heap.size + 1 + m, 4, none⟩) (by show w.heap.size + 1 + j ≠ w.heap.size + 1 + m; omega) (.pointer (some ⟨w.heap.size + 1 + (m + 1), 0, none⟩))
      by_cases hlt : j < m
      · rw [if_pos hlt] at h2
        rw [if_pos (show j < m + 1 by omega)]
        by_cases h0 : 0 < j
        · rw [if_pos (by omega)] at h2 ⊢; exact h2
        · rw [if_neg (by omega)] at h2 ⊢; exact h2
      · rw [if_neg (by omega), if_neg hlt] at h2
        rw [if_neg (by omega), if_neg (by omega)]
        exact h2

theorem NB.drew {w wr : World} {n : Nat} {Z : Nat → Int} {m : Nat} (h : NB w wr n Z m) : NB w wr.drew n Z m := ⟨h.below.drew, h.size, h.top, h.made⟩

/-- All nodes are linked; the last leads to nl. -/
structure NC (w wr : World) (n : Nat) (Z : Nat → Int) (nl : Option Addr) : Prop where
  below : Below w.heap.size w wr
  size : w.heap.size + 1 + n ≤ wr.heap.size
  top : wr.rowIs w.heap.size 24 n (fun j => .pointer (some ⟨w.heap.size + 1 + j, 0, none⟩))
  made : ∀ j, j < n → Wt wr (w.heap.size + 1 + j) (Z j) false (if 0 < j then some ⟨w.heap.size + 1 + (j - 1), 0, none⟩ else none) (if j + 1 < n then some ⟨w.heap.size + 1 + (j + 1), 0, none⟩ else nl)

theorem nc_start {w wr : World} {n : Nat} {Z : Nat → Int} {m : Nat} (h : NB w wr n Z m) (hm : m + 1 ≤ n ∨ n = 0) (hmn : n ≤ m + 1) : NC w wr n Z none :=
  ⟨h.below, by rw [h.size]; exact Nat.le_refl _, h.top, fun j hj => by
    have h1 := h.made j hj
    by_cases h0 : 0 < j
    · rw [if_pos (by omega)] at h1
      rw [if_pos h0]
      by_cases h2 : j + 1 < n
      · rw [if_pos (by omega)] at h1; rw [if_pos h2]; exact h1
      · rw [if_neg (by omega)] at h1; rw [if_neg h2]; exact h1
    · rw [if_neg (by omega)] at h1
      rw [if_neg h0]
      by_cases h2 : j + 1 < n
      · rw [if_pos (by omega)] at h1; rw [if_pos h2]; exact h1
      · rw [if_neg (by omega)] at h1; rw [if_neg h2]; exact h1⟩

section
variable {w wr : World} {n : Nat} {Z : Nat → Int} {nl : Option Addr}
theorem NC.alloc (h : NC w wr n Z nl) (o : Obj) : NC w (wr.alloc o) n Z nl :=
  ⟨h.below.alloc (by have := h.size; omega) o, by have := h.size; rw [nblk_alloc]; omega, h.top.alloc o, fun j hj => (h.made j hj).alloc o⟩
theorem NC.other (h : NC w wr n Z nl) {a : Addr} (ha : w.heap.size + 1 + n ≤ a.block) (v : Value) : NC w (wr.setCell a v) n Z nl :=
  ⟨h.below.setCell (by omega) v, by rw [nblk_setCell]; exact h.size, h.top.setOther (by omega) v, fun j hj => (h.made j hj).other (by omega) v⟩
theorem NC.drew (h : NC w wr n Z nl) : NC w wr.drew n Z nl := ⟨h.below.drew, h.size, h.top, h.made⟩
theorem NC.link (h : NC w wr n Z nl) (m : Nat) (hm : n = m + 1) (x : Option Addr) : NC w (wr.setCell ⟨w.heap.size + 1 + m, 4, none⟩ (.pointer x)) n Z x :=
  ⟨h.below.setCell (by show _ ≤ w.heap.size + 1 + m; omega) _, by rw [nblk_setCell]; exact h.size, h.top.setOther (by show w.heap.size ≠ w.heap.size + 1 + m; omega) _, fun j hj => by
    by_cases e : j = m
    · subst e
      have := (h.made j hj).set4 x
      rw [if_neg (show ¬ j + 1 < n by omega)]
      exact this
    · have := (h.made j hj).other (a := ⟨w.heap.size + 1 + m, 4, none⟩) (by show w.heap.size + 1 + j ≠ w.heap.size + 1 + m; omega) (.pointer x)
      rw [if_pos (show j + 1 < n by omega)] at this ⊢
      exact this⟩
theorem NC.vac (h : NC w wr 0 Z nl) (x : Option Addr) : NC w wr 0 Z x := ⟨h.below, h.size, h.top, fun _ hj => absurd hj (Nat.not_lt_zero _)⟩
/-- Behind make and append. -/
theorem NC.grown {w' : World} {row : Option Nat} (h : NC w wr n Z nl) (hg : wr.grownBy w' row) (hr : ∀ k, row = some k → w.heap.size + 1 + n ≤ k) : NC w w' n Z nl :=
  ⟨h.below.grown hg (by have := h.size; omega) (fun k e => by have := hr k e; omega), Nat.le_trans h.size hg.size,
    h.top.of_block (hg.block _ (by have := h.size; omega) (fun e => by have := hr _ e.symm; omega)),
    fun j hj => (hg.block (w.heap.size + 1 + j) (by have := h.size; omega) (fun e => by have := hr _ e.symm; omega)).trans (h.made j hj)⟩
end

def hdA (N n : Nat) : Option Addr := if 0 < n then some ⟨N + 1, 0, none⟩ else none
def tlA (N n : Nat) : Option Addr := if 0 < n then some ⟨N + 1 + (n - 1), 0, none⟩ else none
/-- The head behind the push. -/
def hdP (N n M : Nat) : Option Addr := if 0 < n then some ⟨N + 1, 0, none⟩ else some ⟨M, 0, none⟩

/-- The spare. -/
def SpOk (w : World) (Q : Nat) (sp : Option Addr) : Prop := sp = none ∨ (sp = some ⟨Q + 1, 0, none⟩ ∧ Wt w (Q + 1) 7 false none none)
theorem SpOk.alloc {w : World} {Q : Nat} {sp : Option Addr} (h : SpOk w Q sp) (o : Obj) : SpOk (w.alloc o) Q sp := by
  rcases h with h | ⟨h, k⟩
  · exact .inl h
  · exact .inr ⟨h, k.alloc o⟩
theorem SpOk.other {w : World} {Q : Nat} {sp : Option Addr} (h : SpOk w Q sp) {a : Addr} (ha : a.block ≠ Q + 1) (v : Value) : SpOk (w.setCell a v) Q sp := by
  rcases h with h | ⟨h, k⟩
  · exact .inl h
  · exact .inr ⟨h, k.other (fun e => ha e.symm) v⟩

/-- The queue is laid at Q, the new waiter at M. -/
structure ND (w wr : World) (n : Nat) (Z : Nat → Int) (Q M : Nat) (len : Int) (sp : Option Addr) (a1 : Int) (a2 : Bool) : Prop where
  nc : NC w wr n Z (some ⟨M, 0, none⟩)
  q : Qu wr Q (hdP w.heap.size n M) (some ⟨M, 0, none⟩) (wrap64 (len + 1)) sp
  me : Wt wr M a1 a2 (tlA w.heap.size n) none
  spok : SpOk wr Q sp
  lo : w.heap.size + 1 + n ≤ Q
  mid : Q < M
  sep : M ≠ Q + 1 ∨ sp = none

theorem nd_bare {w wr : World} {Z : Nat → Int} {Q M : Nat} {len : Int} {sp : Option Addr} {a1 : Int} {a2 : Bool} (hn : NC w wr 0 Z none) (hq : Qu wr Q none none len sp) (hm : Wt wr M a1 a2 none none) (hs : SpOk wr Q sp)
    (hlo : w.heap.size + 1 ≤ Q) (hQM : Q < M) (hsep : M ≠ Q + 1 ∨ sp = none) :
    ND w ((((wr.setCell ⟨M, 3, none⟩ (.pointer none)).setCell ⟨Q, 0, none⟩ (.pointer (some ⟨M, 0, none⟩))).setCell ⟨Q, 1, none⟩ (.pointer (some ⟨M, 0, none⟩))).setCell ⟨Q, 2, none⟩ (.int .i64 (wrap64 (len + 1)))) 0 Z Q M len sp a1 a2 := by
  refine ⟨((((hn.vac _).other (by show _ ≤ M; omega) _).other (by show _ ≤ Q; omega) _).other (by show _ ≤ Q; omega) _).other (by show _ ≤ Q; omega) _, ?_, ?_, ?_, hlo, hQM, hsep⟩
  · exact (((hq.other (by show Q ≠ M; omega) _).set0 _).set1 _).set2 _
  · exact (((hm.set3 _).other (by show M ≠ Q; omega) _).other (by show M ≠ Q; omega) _).other (by show M ≠ Q; omega) _
  · rcases hsep with h | h
    · exact (((hs.other (by show M ≠ Q + 1; exact h) _).other (by show Q ≠ Q + 1; omega) _).other (by show Q ≠ Q + 1; omega) _).other (by show Q ≠ Q + 1; omega) _
    · exact .inl h

theorem nd_tail {w wr : World} {Z : Nat → Int} {m Q M : Nat} {len : Int} {sp : Option Addr} {a1 : Int} {a2 : Bool} (hn : NC w wr (m + 1) Z none) (hq : Qu wr Q (some ⟨w.heap.size + 1, 0, none⟩) (some ⟨w.heap.size + 1 + m, 0, none⟩) len sp)
    (hm : Wt wr M a1 a2 none none) (hs : SpOk wr Q sp) (hlo : w.heap.size + 1 + (m + 1) ≤ Q) (hQM : Q < M) (hsep : M ≠ Q + 1 ∨ sp = none) :
    ND w ((((wr.setCell ⟨M, 3, none⟩ (.pointer (some ⟨w.heap.size + 1 + m, 0, none⟩))).setCell ⟨w.heap.size + 1 + m, 4, none⟩ (.pointer (some ⟨M, 0, none⟩))).setCell ⟨Q, 1, none⟩ (.pointer (some ⟨M, 0, none⟩))).setCell ⟨Q, 2, none⟩ (.int .i64 (wrap64 (len + 1)))) (m + 1) Z Q M len sp a1 a2 := by
  refine ⟨(((hn.other (by show _ ≤ M; omega) _).link m rfl _).other (by show _ ≤ Q; omega) _).other (by show _ ≤ Q; omega) _, ?_, ?_, ?_, hlo, hQM, hsep⟩
  · rw [hdP, if_pos (by omega)]
    exact (((hq.other (by show Q ≠ M; omega) _).other (by show Q ≠ w.heap.size + 1 + m; omega) _).set1 _).set2 _
  · rw [tlA, if_pos (by omega)]
    exact (((hm.set3 _).other (by show M ≠ w.heap.size + 1 + m; omega) _).other (by show M ≠ Q; omega) _).other (by show M ≠ Q; omega) _
  · rcases hsep with h | h
    · exact (((hs.other (by show M ≠ Q + 1; exact h) _).other (by show w.heap.size + 1 + m ≠ Q + 1; omega) _).other (by show Q ≠ Q + 1; omega) _).other (by show Q ≠ Q + 1; omega) _
    · exact .inl h

theorem SpOk.of_block {w w' : World} {Q : Nat} {sp : Option Addr} (h : SpOk w Q sp) (e : Q + 1 < w.heap.size → w'.heap[Q + 1]? = w.heap[Q + 1]?) : SpOk w' Q sp := by
  rcases h with h | ⟨h, k⟩
  · exact .inl h
  · exact .inr ⟨h, (e k.lt).trans k⟩
theorem ND.grown {w wr w' : World} {n : Nat} {Z : Nat → Int} {Q M : Nat} {len : Int} {sp : Option Addr} {a1 : Int} {a2 : Bool} {row : Option Nat} (h : ND w wr n Z Q M len sp a1 a2)
    (hg : wr.grownBy w' row) (hr : ∀ k, row = some k → M < k) : ND w w' n Z Q M len sp a1 a2 :=
  ⟨h.nc.grown hg (fun k e => by have := hr k e; have := h.lo; have := h.mid; omega),
    (hg.block Q h.q.lt (fun e => by have := hr _ e.symm; have := h.mid; omega)).trans h.q,
    (hg.block M h.me.lt (fun e => by have := hr _ e.symm; omega)).trans h.me,
    h.spok.of_block (fun hlt => hg.block _ hlt (fun e => by have := hr _ e.symm; have := h.mid; omega)), h.lo, h.mid, h.sep⟩
theorem ND.alloc {w wr : World} {n : Nat} {Z : Nat → Int} {Q M : Nat} {len : Int} {sp : Option Addr} {a1 : Int} {a2 : Bool} (h : ND w wr n Z Q M len sp a1 a2) (o : Obj) : ND w (wr.alloc o) n Z Q M len sp a1 a2 :=
  ⟨h.nc.alloc o, h.q.alloc o, h.me.alloc o, h.spok.alloc o, h.lo, h.mid, h.sep⟩

/-- What the slice 'all' holds. -/
def allA (N n M j : Nat) : Option Addr := if j < n then some ⟨N + 1 + j, 0, none⟩ else some ⟨M, 0, none⟩
theorem hdP_eq (N n M : Nat) : hdP N n M = allA N n M 0 := by simp [hdP, allA]
def nodesA (N n : Nat) : List Value := (List.range n).map (fun j => .pointer (some ⟨N + 1 + j, 0, none⟩))
theorem nodesA_len (N n : Nat) : (nodesA N n).length = n := by simp [nodesA]
theorem nodesA_get (N n j : Nat) (u : Value) (h : (nodesA N n)[j]? = some u) : j < n ∧ u = .pointer (some ⟨N + 1 + j, 0, none⟩) := by
  have hj : j < n := by
    obtain ⟨hlt, _⟩ := List.getElem?_eq_some_iff.1 h
    rw [nodesA_len] at hlt
    exact hlt
  simp [nodesA, hj] at h
  exact ⟨hj, h.symm⟩
theorem nodesA_one (N n : Nat) : ∀ u ∈ nodesA N n, u.oneCell' = true := by
  intro u hu
  simp [nodesA] at hu
  obtain ⟨j, _, rfl⟩ := hu
  rfl

theorem owns_cell {w : World} {base : Nat} {e : TypeId} {g n cap : Nat} {xs : List Value} (h : w.ownsRow base e 1 (.slice (some ⟨g, 0, none⟩) n cap) n xs) {j : Nat} {u : Value} (hu : xs[j]? = some u) :
    w.cell? ⟨g, j, none⟩ = some u := by
  obtain ⟨hl, h | ⟨g', cap', cur, hv, _, hh, _, _, _, ht⟩⟩ := h
  · exact absurd h.1 (by simp)
  · simp at hv
    obtain ⟨rfl, rfl⟩ := hv
    simp only [World.cell?, hh]
    rw [← ht] at hu
    obtain ⟨hlt, hge⟩ := List.getElem?_eq_some_iff.1 hu
    have hj : j < cur.size := by simp at hlt; omega
    simp at hge
    simp [hj, hge]

theorem all_cell {w : World} {base : Nat} {e : TypeId} {g N n M cap : Nat} (h : w.ownsRow base e 1 (.slice (some ⟨g, 0, none⟩) (n + 1) cap) (n + 1) (nodesA N n ++ [.pointer (some ⟨M, 0, none⟩)])) {j : Nat} (hj : j < n + 1) :
    w.cell? ⟨g, j, none⟩ = some (.pointer (allA N n M j)) := by
  refine owns_cell h ?_
  by_cases hlt : j < n
  · rw [List.getElem?_append_left (by rw [nodesA_len]; exact hlt), allA, if_pos hlt]
    simp [nodesA, hlt]
  · obtain rfl : j = n := by omega
    rw [List.getElem?_append_right (by rw [nodesA_len]; exact Nat.le_refl _), nodesA_len, allA, if_neg hlt]
    simp
end Go.Proofs.Ybulkegfy
