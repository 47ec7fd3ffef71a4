/-
  components: how the state of the walk lies in memory; what each store does to it.
-/
import Derived.Test.YbulkawqgReach
namespace Go.Proofs.Ybulkawqg
open Go.RowKit
open Plain (upd St)

theorem Yba.info75 : (Yba.prog.info? 75).map (fun i => (i.zero, i.size, i.bytes)) = some (some (.agg #[.int .i32 0, .int .i64 0]), 2, 16) := by kernel_rfl

/-- The cells of a row of frames. -/
def frs (l : List (Nat × Nat)) : List Value := l.flatMap fun p => [.int .i32 (p.1 : Int), .int .i64 (p.2 : Int)]
theorem length_frs (l : List (Nat × Nat)) : (frs l).length = l.length * 2 := by
  induction l with
  | nil => rfl
  | cons p l ih => simp [frs] at ih ⊢; omega
theorem frs_append (l m : List (Nat × Nat)) : frs (l ++ m) = frs l ++ frs m := by simp [frs]
theorem frs_one (v e : Nat) : frs [(v, e)] = [.int .i32 (v : Int), .int .i64 (e : Int)] := rfl

structure Rep (w0 w : World) (B n : Nat) (s : St) (sv wv : Value) : Prop where
  ord : w.rowIs B 21 n (fun u => .int .i32 (s.ord u))
  ordB : w.heap[B + 1]? = some (.cells #[.slice (some ⟨B, 0, none⟩) n n] 49 (0, 0))
  low : w.rowIs (B + 2) 21 n (fun u => .int .i32 (s.low u))
  lowB : w.heap[B + 3]? = some (.cells #[.slice (some ⟨B + 2, 0, none⟩) n n] 49 (0, 0))
  comp : w.rowIs (B + 4) 21 n (fun u => .int .i32 (s.comp u))
  stkB : w.heap[B + 5]? = some (.cells #[sv] 49 (0, 0))
  wlkB : w.heap[B + 6]? = some (.cells #[wv] 73 (0, 0))
  visB : w.heap[B + 7]? = some (.cells #[.int .i32 (s.vis : Int)] 21 (0, 0))
  stk : w.ownsRow (B + 8) 21 1 sv s.stk.length (i32s s.stk)
  wlk : w.ownsRow (B + 8) 75 2 wv s.wlk.length (frs s.wlk)
  old : Below B w0 w

theorem block_set {w : World} {b : Nat} {o : Obj} (h : w.heap[b]? = some o) {a : Addr} (hne : b ≠ a.block) (v : Value) : (w.setCell a v).heap[b]? = some o := by
  rw [Below.heap_setCell _ _ _ _ hne]; exact h
theorem block_alloc {w : World} {b : Nat} {o : Obj} (h : w.heap[b]? = some o) (o' : Obj) : (w.alloc o').heap[b]? = some o := by
  rw [Below.heap_alloc _ _ _ (lt_of_block h)]; exact h
theorem block_grown {w w1 : World} {row : Option Nat} {b : Nat} {o : Obj} (hg : w.grownBy w1 row) (h : w.heap[b]? = some o) (hne : some b ≠ row) : w1.heap[b]? = some o := by
  rw [hg.block b (lt_of_block h) hne]; exact h

section
variable {w0 w : World} {B n : Nat} {s : St} {sv wv : Value}

theorem Rep.svOther (h : Rep w0 w B n s sv wv) {b : Nat} (hb : b < B + 8) : sv.ownBlock ≠ some b := fun e => by have := (h.stk.lt b e).1; omega
theorem Rep.wvOther (h : Rep w0 w B n s sv wv) {b : Nat} (hb : b < B + 8) : wv.ownBlock ≠ some b := fun e => by have := (h.wlk.lt b e).1; omega

/-- The stack's row and the frames' row are two blocks. -/
theorem own_ne {w : World} {b1 b2 n1 n2 s1 s2 : Nat} {t1 t2 : TypeId} {v1 v2 : Value} {x1 x2 : List Value} (h1 : w.ownsRow b1 t1 s1 v1 n1 x1) (h2 : w.ownsRow b2 t2 s2 v2 n2 x2) (hne : t1 ≠ t2) : v1.ownBlock = none ∨ v1.ownBlock ≠ v2.ownBlock := by
  rcases h1.2 with ⟨rfl, _⟩ | ⟨g, cap, cur, rfl, _, hg, _⟩
  · exact Or.inl rfl
  · right
    rcases h2.2 with ⟨rfl, _⟩ | ⟨g', cap', cur', rfl, _, hg', _⟩
    · simp [Value.ownBlock]
    · intro e
      simp [Value.ownBlock] at e
      subst e
      rw [hg] at hg'
      simp at hg'
      exact hne hg'.2

theorem Rep.drew (h : Rep w0 w B n s sv wv) : Rep w0 w.drew B n s sv wv :=
  ⟨h.ord, h.ordB, h.low, h.lowB, h.comp, h.stkB, h.wlkB, h.visB, h.stk, h.wlk, h.old.drew⟩
theorem Rep.drewN (h : Rep w0 w B n s sv wv) (k : Nat) : Rep w0 (w.drewN k) B n s sv wv :=
  ⟨h.ord, h.ordB, h.low, h.lowB, h.comp, h.stkB, h.wlkB, h.visB, h.stk, h.wlk, below_drewN h.old k⟩
theorem Rep.alloc (h : Rep w0 w B n s sv wv) (o : Obj) : Rep w0 (w.alloc o) B n s sv wv :=
  ⟨h.ord.alloc o, block_alloc h.ordB o, h.low.alloc o, block_alloc h.lowB o, h.comp.alloc o, block_alloc h.stkB o, block_alloc h.wlkB o, block_alloc h.visB o, h.stk.alloc o, h.wlk.alloc o,
    h.old.alloc (by have := h.ord.lt; omega) o⟩

theorem Rep.setOrd (h : Rep w0 w B n s sv wv) (v : Nat) (x : Int) : Rep w0 (w.setCell ⟨B, v, none⟩ (.int .i32 x)) B n { s with ord := upd s.ord v x } sv wv :=
  ⟨(h.ord.set v _).congr (fun i _ => by by_cases e : i = v <;> simp [upd, e]), block_set h.ordB (by simp) _, h.low.setOther (by simp) _, block_set h.lowB (by simp) _, h.comp.setOther (by simp) _,
    block_set h.stkB (by simp) _, block_set h.wlkB (by simp) _, block_set h.visB (by simp) _, ownsRow_setCell_below h.stk (by simp) _, ownsRow_setCell_below h.wlk (by simp) _, h.old.setCell (by simp) _⟩
theorem Rep.setLow (h : Rep w0 w B n s sv wv) (v : Nat) (x : Int) : Rep w0 (w.setCell ⟨B + 2, v, none⟩ (.int .i32 x)) B n { s with low := upd s.low v x } sv wv :=
  ⟨h.ord.setOther (by simp) _, block_set h.ordB (by simp) _, (h.low.set v _).congr (fun i _ => by by_cases e : i = v <;> simp [upd, e]), block_set h.lowB (by simp) _, h.comp.setOther (by simp) _,
    block_set h.stkB (by simp) _, block_set h.wlkB (by simp) _, block_set h.visB (by simp) _, ownsRow_setCell_below h.stk (by simp) _, ownsRow_setCell_below h.wlk (by simp) _, h.old.setCell (by simp) _⟩
theorem Rep.setComp (h : Rep w0 w B n s sv wv) (v : Nat) (x : Int) : Rep w0 (w.setCell ⟨B + 4, v, none⟩ (.int .i32 x)) B n { s with comp := upd s.comp v x } sv wv :=
  ⟨h.ord.setOther (by simp) _, block_set h.ordB (by simp) _, h.low.setOther (by simp) _, block_set h.lowB (by simp) _, (h.comp.set v _).congr (fun i _ => by by_cases e : i = v <;> simp [upd, e]),
    block_set h.stkB (by simp) _, block_set h.wlkB (by simp) _, block_set h.visB (by simp) _, ownsRow_setCell_below h.stk (by simp) _, ownsRow_setCell_below h.wlk (by simp) _, h.old.setCell (by simp) _⟩
theorem Rep.setVis (h : Rep w0 w B n s sv wv) (x : Nat) : Rep w0 (w.setCell ⟨B + 7, 0, none⟩ (.int .i32 (x : Int))) B n { s with vis := x } sv wv :=
  ⟨h.ord.setOther (by simp) _, block_set h.ordB (by simp) _, h.low.setOther (by simp) _, block_set h.lowB (by simp) _, h.comp.setOther (by simp) _,
    block_set h.stkB (by simp) _, block_set h.wlkB (by simp) _, one_setCell h.visB, ownsRow_setCell_below h.stk (by simp) _, ownsRow_setCell_below h.wlk (by simp) _, h.old.setCell (by simp) _⟩

/-- A vertex is put on the stack. -/
theorem Rep.pushStk (h : Rep w0 w B n s sv wv) {w1 : World} {v g cap : Nat} (hown : w1.ownsRow (B + 8) 21 1 (.slice (some ⟨g, 0, none⟩) (s.stk.length + 1) cap) (s.stk.length + 1) (i32s s.stk ++ [.int .i32 (v : Int)]))
    (hgrow : w.grownBy w1 sv.ownBlock) :
    Rep w0 (w1.setCell ⟨B + 5, 0, none⟩ (.slice (some ⟨g, 0, none⟩) (s.stk.length + 1) cap)) B n { s with stk := s.stk ++ [v] } (.slice (some ⟨g, 0, none⟩) (s.stk.length + 1) cap) wv := by
  have hne : ∀ {b}, b < B + 8 → some b ≠ sv.ownBlock := fun hb e => h.svOther hb e.symm
  have rk : ∀ {b t m} {f : Nat → Value}, b < B + 8 → w.rowIs b t m f → w1.rowIs b t m f := fun hb hr => hr.of_block (hgrow.block _ hr.lt (hne hb))
  have hw1 := h.wlk.kept hgrow (by
    rcases own_ne h.wlk h.stk (by decide) with h1 | h1
    · exact Or.inl h1
    · exact Or.inr h1)
  refine ⟨(rk (by omega) h.ord).setOther (by simp) _, block_set (block_grown hgrow h.ordB (hne (by omega))) (by simp) _, (rk (by omega) h.low).setOther (by simp) _,
    block_set (block_grown hgrow h.lowB (hne (by omega))) (by simp) _, (rk (by omega) h.comp).setOther (by simp) _, one_setCell (block_grown hgrow h.stkB (hne (by omega))),
    block_set (block_grown hgrow h.wlkB (hne (by omega))) (by simp) _, block_set (block_grown hgrow h.visB (hne (by omega))) (by simp) _, ?_, ownsRow_setCell_below hw1 (by simp) _,
    (h.old.grown hgrow (by have := h.ord.lt; omega) (fun k hk => by have := (h.stk.lt k hk).1; omega)).setCell (by simp) _⟩
  have := ownsRow_setCell_below hown (a := ⟨B + 5, 0, none⟩) (by simp) (.slice (some ⟨g, 0, none⟩) (s.stk.length + 1) cap)
  simpa [i32s] using this

/-- A frame is put on the walk. -/
theorem Rep.pushWlk (h : Rep w0 w B n s sv wv) {w1 : World} {v e g cap : Nat} (hown : w1.ownsRow (B + 8) 75 2 (.slice (some ⟨g, 0, none⟩) (s.wlk.length + 1) cap) (s.wlk.length + 1) (frs s.wlk ++ [.int .i32 (v : Int), .int .i64 (e : Int)]))
    (hgrow : w.grownBy w1 wv.ownBlock) :
    Rep w0 (w1.setCell ⟨B + 6, 0, none⟩ (.slice (some ⟨g, 0, none⟩) (s.wlk.length + 1) cap)) B n { s with wlk := s.wlk ++ [(v, e)] } sv (.slice (some ⟨g, 0, none⟩) (s.wlk.length + 1) cap) := by
  have hne : ∀ {b}, b < B + 8 → some b ≠ wv.ownBlock := fun hb e => h.wvOther hb e.symm
  have rk : ∀ {b t m} {f : Nat → Value}, b < B + 8 → w.rowIs b t m f → w1.rowIs b t m f := fun hb hr => hr.of_block (hgrow.block _ hr.lt (hne hb))
  have hw1 := h.stk.kept hgrow (by
    rcases own_ne h.stk h.wlk (by decide) with h1 | h1
    · exact Or.inl h1
    · exact Or.inr h1)
  refine ⟨(rk (by omega) h.ord).setOther (by simp) _, block_set (block_grown hgrow h.ordB (hne (by omega))) (by simp) _, (rk (by omega) h.low).setOther (by simp) _,
    block_set (block_grown hgrow h.lowB (hne (by omega))) (by simp) _, (rk (by omega) h.comp).setOther (by simp) _, block_set (block_grown hgrow h.stkB (hne (by omega))) (by simp) _,
    one_setCell (block_grown hgrow h.wlkB (hne (by omega))), block_set (block_grown hgrow h.visB (hne (by omega))) (by simp) _, ownsRow_setCell_below hw1 (by simp) _, ?_,
    (h.old.grown hgrow (by have := h.ord.lt; omega) (fun k hk => by have := (h.wlk.lt k hk).1; omega)).setCell (by simp) _⟩
  have := ownsRow_setCell_below hown (a := ⟨B + 6, 0, none⟩) (by simp) (.slice (some ⟨g, 0, none⟩) (s.wlk.length + 1) cap)
  show World.ownsRow _ _ _ _ _ (s.wlk ++ [(v, e)]).length (frs (s.wlk ++ [(v, e)]))
  rw [frs_append, frs_one, List.length_append]
  exact this

/-- The last vertex is taken off the stack. -/
theorem Rep.popStk {g m cap v : Nat} {s0 : List Nat} (h : Rep w0 w B n s (.slice (some ⟨g, 0, none⟩) (m + 1) cap) wv) (hs : s.stk = s0 ++ [v]) (hm : s0.length = m) :
    Rep w0 (w.setCell ⟨B + 5, 0, none⟩ (.slice (some ⟨g, 0, none⟩) m cap)) B n { s with stk := s0 } (.slice (some ⟨g, 0, none⟩) m cap) wv := by
  have hk := h.stk
  rw [hs, List.length_append, hm] at hk
  have hp := ownsRow_pop (n := m) (size := 1) (xs := i32s s0) (last := i32s [v]) (by rw [length_i32s, hm]; omega) (by simpa [i32s] using hk)
  refine ⟨h.ord.setOther (by simp) _, block_set h.ordB (by simp) _, h.low.setOther (by simp) _, block_set h.lowB (by simp) _, h.comp.setOther (by simp) _,
    one_setCell h.stkB, block_set h.wlkB (by simp) _, block_set h.visB (by simp) _, ?_, ownsRow_setCell_below h.wlk (by simp) _, h.old.setCell (by simp) _⟩
  have := ownsRow_setCell_below hp (a := ⟨B + 5, 0, none⟩) (by simp) (.slice (some ⟨g, 0, none⟩) m cap)
  show World.ownsRow _ _ _ _ _ s0.length (i32s s0)
  rw [hm]; exact this

theorem Rep.topStk {g m cap v : Nat} {s0 : List Nat} (h : Rep w0 w B n s (.slice (some ⟨g, 0, none⟩) (m + 1) cap) wv) (hs : s.stk = s0 ++ [v]) (hm : s0.length = m) : w.cell? ⟨g, m, none⟩ = some (.int .i32 (v : Int)) := by
  have hk := h.stk
  rw [hs, List.length_append, hm] at hk
  have := hk.cellAt m (by simp)
  rw [this]
  simp [i32s, ← hm]

/-- The last frame is left. -/
theorem Rep.popWlk {g m cap v e : Nat} {w1 : List (Nat × Nat)} (h : Rep w0 w B n s sv (.slice (some ⟨g, 0, none⟩) (m + 1) cap)) (hs : s.wlk = w1 ++ [(v, e)]) (hm : w1.length = m) :
    Rep w0 (w.setCell ⟨B + 6, 0, none⟩ (.slice (some ⟨g, 0, none⟩) m cap)) B n { s with wlk := w1 } sv (.slice (some ⟨g, 0, none⟩) m cap) := by
  have hk := h.wlk
  rw [hs, List.length_append, hm, frs_append] at hk
  have hp := ownsRow_pop (xs := frs w1) (last := frs [(v, e)]) (by rw [length_frs, hm]) hk
  refine ⟨h.ord.setOther (by simp) _, block_set h.ordB (by simp) _, h.low.setOther (by simp) _, block_set h.lowB (by simp) _, h.comp.setOther (by simp) _,
    block_set h.stkB (by simp) _, one_setCell h.wlkB, block_set h.visB (by simp) _, ownsRow_setCell_below h.stk (by simp) _, ?_, h.old.setCell (by simp) _⟩
  have := ownsRow_setCell_below hp (a := ⟨B + 6, 0, none⟩) (by simp) (.slice (some ⟨g, 0, none⟩) m cap)
  show World.ownsRow _ _ _ _ _ w1.length (frs w1)
  rw [hm]; exact this

theorem Rep.topWlk {g m cap v e : Nat} {w1 : List (Nat × Nat)} (h : Rep w0 w B n s sv (.slice (some ⟨g, 0, none⟩) (m + 1) cap)) (hs : s.wlk = w1 ++ [(v, e)]) (hm : w1.length = m) :
    w.cell? ⟨g, m * 2, none⟩ = some (.int .i32 (v : Int)) ∧ w.cell? ⟨g, m * 2 + 1, none⟩ = some (.int .i64 (e : Int)) ∧ w.frozen? ⟨g, m * 2 + 1, none⟩ = false := by
  have hk := h.wlk
  rw [hs, List.length_append, hm, frs_append] at hk
  have hl : (frs w1).length = m * 2 := by rw [length_frs, hm]
  refine ⟨?_, ?_, hk.frozenAt _⟩
  · rw [hk.cellAt (m * 2) (by show m * 2 < (m + 1) * 2; omega), List.getElem?_append_right (by omega), hl]
    simp [frs]
  · rw [hk.cellAt (m * 2 + 1) (by show m * 2 + 1 < (m + 1) * 2; omega), List.getElem?_append_right (by omega), hl]
    simp [frs]

/-- The last frame goes to its next edge. -/
theorem Rep.bump {g m cap v e : Nat} {w1 : List (Nat × Nat)} (h : Rep w0 w B n s sv (.slice (some ⟨g, 0, none⟩) (m + 1) cap)) (hs : s.wlk = w1 ++ [(v, e)]) (hm : w1.length = m) :
    Rep w0 (w.setCell ⟨g, m * 2 + 1, none⟩ (.int .i64 ((e + 1 : Nat) : Int))) B n { s with wlk := w1 ++ [(v, e + 1)] } sv (.slice (some ⟨g, 0, none⟩) (m + 1) cap) := by
  have hg : B + 8 ≤ g := (h.wlk.lt g rfl).1
  have hk := h.wlk
  rw [hs, List.length_append, hm, frs_append] at hk
  have hl : (frs w1).length = m * 2 := by rw [length_frs, hm]
  have hst := (hk.stored (m * 2 + 1) (.int .i64 ((e + 1 : Nat) : Int))).1
  have hset : (frs w1 ++ frs [(v, e)]).set (m * 2 + 1) (.int .i64 ((e + 1 : Nat) : Int)) = frs w1 ++ frs [(v, e + 1)] := by
    rw [List.set_append_right _ _ (by omega), hl]
    simp [frs]
  rw [hset] at hst
  have hne : sv.ownBlock ≠ some g := by
    rcases own_ne h.stk h.wlk (by decide) with h1 | h1
    · rw [h1]; simp
    · exact h1
  refine ⟨h.ord.setOther (by simp; omega) _, block_set h.ordB (by simp; omega) _, h.low.setOther (by simp; omega) _, block_set h.lowB (by simp; omega) _, h.comp.setOther (by simp; omega) _,
    block_set h.stkB (by simp; omega) _, block_set h.wlkB (by simp; omega) _, block_set h.visB (by simp; omega) _, ownsRow_setCell_other h.stk hne _, ?_, h.old.setCell (by simp; omega) _⟩
  show World.ownsRow _ _ _ _ _ (w1 ++ [(v, e + 1)]).length (frs (w1 ++ [(v, e + 1)]))
  rw [List.length_append, hm, frs_append]
  exact hst

/-- What the walk reads. -/
theorem Rep.cOrd (h : Rep w0 w B n s sv wv) {u : Nat} (hu : u < n) : w.cell? ⟨B, u, none⟩ = some (.int .i32 (s.ord u)) ∧ w.frozen? ⟨B, u, none⟩ = false := ⟨h.ord.cell hu, h.ord.frozen u⟩
theorem Rep.cLow (h : Rep w0 w B n s sv wv) {u : Nat} (hu : u < n) : w.cell? ⟨B + 2, u, none⟩ = some (.int .i32 (s.low u)) ∧ w.frozen? ⟨B + 2, u, none⟩ = false := ⟨h.low.cell hu, h.low.frozen u⟩
theorem Rep.cComp (h : Rep w0 w B n s sv wv) {u : Nat} (hu : u < n) : w.cell? ⟨B + 4, u, none⟩ = some (.int .i32 (s.comp u)) ∧ w.frozen? ⟨B + 4, u, none⟩ = false := ⟨h.comp.cell hu, h.comp.frozen u⟩
end
end Go.Proofs.Ybulkawqg
