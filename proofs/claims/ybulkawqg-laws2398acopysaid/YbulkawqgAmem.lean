/-
  A state in memory, and what writes to it.
-/
import Derived.Test.YbulkawqgAeq
import Derived.Deep.RegionLaw
namespace Go.Proofs.Ybulkawqg.A
open Go.RowKit

/-- A state in memory of the call's own, whatever its rows hold. -/
structure PG (w : World) (base pb : Nat) (z0 z1 z2 z3 z4 : Int) (va : Value) (na : Nat) (xa : List Value) (vb : Value) (nb : Nat) (xb : List Value) (vc : Value) (nc : Nat) (xc : List Value) : Prop where
  blk : w.heap[pb]? = some (.cells #[.int .i64 z0, .int .i64 z1, .int .i64 z2, .int .i64 z3, .int .i64 z4, va, vb, vc] 33 (0, 0))
  low : base ≤ pb
  oa : w.ownsRow base 37 4 va na xa
  ob : w.ownsRow base 37 4 vb nb xb
  oc : w.ownsRow base 3 1 vc nc xc
  far : va.ownBlock = none ∨ va.ownBlock ≠ vb.ownBlock

theorem PSt.pg {w : World} {base pb : Nat} {d : Dat} {va vb vc : Value} (h : PSt w base pb d va vb vc) : PG w base pb d.p d.j d.run d.lim d.tie va d.qa.length (q4 d.qa) vb d.qb.length (q4 d.qb) vc d.zc.length (i64s d.zc) := ⟨h.blk, h.low, h.oa, h.ob, h.oc, h.far⟩
theorem PG.pst {w : World} {base pb : Nat} {d : Dat} {va vb vc : Value} (h : PG w base pb d.p d.j d.run d.lim d.tie va d.qa.length (q4 d.qa) vb d.qb.length (q4 d.qb) vc d.zc.length (i64s d.zc)) : PSt w base pb d va vb vc := ⟨h.blk, h.low, h.oa, h.ob, h.oc, h.far⟩

/-- A row's block is of the row's kind. -/
theorem own_kind {w : World} {B : Nat} {e : TypeId} {size : Nat} {v : Value} {n : Nat} {xs : List Value} (h : w.ownsRow B e size v n xs) {g : Nat} (hg : v.ownBlock = some g) : ∃ c, w.heap[g]? = some (.cells c e (0, 0)) := by
  rcases h.2 with ⟨rfl, _⟩ | ⟨g', cap, cur, rfl, _, hh, _⟩
  · simp [Value.ownBlock] at hg
  · simp [Value.ownBlock] at hg
    subst hg
    exact ⟨cur, hh⟩
theorem own_far {w : World} {B B' : Nat} {e e' : TypeId} {size size' : Nat} {v v' : Value} {n n' : Nat} {xs xs' : List Value} (h : w.ownsRow B e size v n xs) (h' : w.ownsRow B' e' size' v' n' xs') (hne : e ≠ e') : v.ownBlock = none ∨ v.ownBlock ≠ v'.ownBlock := by
  cases hk : v.ownBlock with
  | none => exact .inl rfl
  | some g =>
    right
    intro e0
    obtain ⟨c, hc⟩ := own_kind h hk
    obtain ⟨c', hc'⟩ := own_kind h' e0.symm
    rw [hc] at hc'
    simp at hc'
    exact hne hc'.2
theorem own_blk {w : World} {B : Nat} {e t : TypeId} {size : Nat} {v : Value} {n : Nat} {xs : List Value} {pb : Nat} {cs : Array Value} (h : w.ownsRow B e size v n xs) (hb : w.heap[pb]? = some (.cells cs t (0, 0))) (hne : e ≠ t) : v.ownBlock ≠ some pb := by
  intro e0
  obtain ⟨c, hc⟩ := own_kind h e0
  rw [hc] at hb
  simp at hb
  exact hne hb.2

/-- The slice [:0] of what one owns. -/
def cut0 : Value → Value
  | .slice x _ c => .slice x 0 c
  | v => v
theorem cut0_own {w : World} {B : Nat} {e : TypeId} {size : Nat} {v : Value} {n : Nat} {xs : List Value} (h : w.ownsRow B e size v n xs) : w.ownsRow B e size (cut0 v) 0 [] := by
  refine ⟨by simp, ?_⟩
  rcases h.2 with ⟨rfl, _⟩ | ⟨g, cap, cur, rfl, h1, h2, h3, h4, h5, _⟩
  · exact .inl ⟨rfl, rfl⟩
  · exact .inr ⟨g, cap, cur, rfl, h1, h2, Nat.zero_le _, h4, h5, by simp⟩
theorem cut0_block (v : Value) : (cut0 v).ownBlock = v.ownBlock := by
  cases v <;> try rfl
  rename_i x _ _
  cases x <;> rfl

/-- append onto [:0] of an own row, from an own row: at the step of a region that draws. -/
theorem step_append_own {P : Program} {w : World} {ops : Array Oper} {o : Oper} {a : Act} {K : Act → World → Prop} {Q : Exit → Act → World → Prop} {E : Prop} (hgd : o.guard = none) (s x : Operand) (t : TypeId)
    (ho : o.op = .call { callee := .builtin .append, args := #[s, x], argTypes := #[t, t] })
    (base base' : Nat) (e : TypeId) (i : TypeInfo) (z : Value) (size bytes : Nat) (ht : P.underlying t = some (.slice e)) (hi : P.info? e = some i) (hz : i.zero = some z)
    (hsize : i.size = size) (hby : i.bytes = bytes) (hzs : z.cells.size = size) (hsz : 0 < size)
    (v u : Value) (m : Nat) (news : List Value) (hs : a.eval s = v) (hx : a.eval x = u) (hown : w.ownsRow base e size v 0 []) (hsrc : w.ownsRow base' e size u m news) (h1 : ∀ u ∈ news, u.oneCell' = true)
    (h63 : m ≤ maxLen) (hbytes : m * bytes ≤ 140737488355328) (hbase : base ≤ w.heap.size)
    (h : ∀ g c w', w'.ownsRow base e size (.slice g m c) m news → w.grownBy w' v.ownBlock → ((Value.slice g m c).ownBlock = v.ownBlock ∨ (Value.slice g m c).ownBlock = some w.heap.size) → K (a.put o.dst (.slice g m c)) w') :
    if Region.wanted o (yielded ops a.tmps) = true then Oper.wp P o a w K Q else E := by
  have hw : Region.wanted o (yielded ops a.tmps) = true := by simp [Region.wanted, hgd]
  rw [if_pos hw]
  have main : ∃ v' w', (Builtin.append_ #[t, t] o.type #[v, u]).run P w = .ok v' w' ∧ w'.ownsRow base e size v' m news ∧ w.grownBy w' v.ownBlock ∧ (v'.ownBlock = v.ownBlock ∨ v'.ownBlock = some w.heap.size) := by
    rcases hsrc.2 with ⟨rfl, rfl⟩ | ⟨g, cap, cur, rfl, _, hg, hnc, _, hcs, htake⟩
    · have hn : news = [] := List.eq_nil_of_length_eq_zero (by rw [hsrc.1]; omega)
      subst hn
      exact ⟨v, w, run_append_owned_none (P := P) (w := w) base t o.type e i size ht hi v 0 [] hown, hown, ⟨rfl, rfl, rfl, Nat.le_refl _, fun _ _ _ => rfl⟩, .inl rfl⟩
    · obtain ⟨v', w', hr, h2, h3, _, h5⟩ := run_append_own_at (P := P) w base t o.type e i z size bytes ht hi hz hsize hby hzs hsz v 0 [] hown ⟨g, 0, none⟩ m cap news hsrc.1 (hsrc.cells rfl) h1 (by omega) (by rw [Nat.zero_add]; exact hbytes) hbase
      exact ⟨v', w', hr, by simpa using h2, h3, h5⟩
  obtain ⟨v', w', hr, h2, h3, h5⟩ := main
  obtain ⟨g, c, rfl⟩ := own_shape h2
  unfold Oper.wp execOp
  simp only [ho, resolve, invoke, builtin, Sem.run_bind, Sem.run_pure, Result.andThen_ok, List.map_toArray, List.map_cons, List.map_nil, hs, hx, hr]
  exact h g c w' h2 h3 h5

section
variable {w w' : World} {B dp : Nat} {z0 z1 z2 z3 z4 : Int} {va : Value} {na : Nat} {xa : List Value} {vb : Value} {nb : Nat} {xb : List Value} {vc : Value} {nc : Nat} {xc : List Value}

theorem PG.dp_lt (h : PG w B dp z0 z1 z2 z3 z4 va na xa vb nb xb vc nc xc) : dp < w.heap.size := lt_of_block h.blk
theorem PG.cell (h : PG w B dp z0 z1 z2 z3 z4 va na xa vb nb xb vc nc xc) (i : Nat) (v : Value) (hv : #[Value.int .i64 z0, .int .i64 z1, .int .i64 z2, .int .i64 z3, .int .i64 z4, va, vb, vc][i]? = some v) : w.cell? ⟨dp, i, none⟩ = some v := by
  have hb := h.blk
  simp only [World.cell?, hb]
  simpa using hv
theorem PG.free (h : PG w B dp z0 z1 z2 z3 z4 va na xa vb nb xb vc nc xc) (i : Nat) : w.frozen? ⟨dp, i, none⟩ = false := frozen_of_row w dp i _ 33 h.blk
theorem PG.drew (h : PG w B dp z0 z1 z2 z3 z4 va na xa vb nb xb vc nc xc) : PG w.drew B dp z0 z1 z2 z3 z4 va na xa vb nb xb vc nc xc := ⟨h.blk, h.low, h.oa.drew, h.ob.drew, h.oc.drew, h.far⟩

theorem far_symm {v v' : Value} (h : v.ownBlock = none ∨ v.ownBlock ≠ v'.ownBlock) : v'.ownBlock = none ∨ v'.ownBlock ≠ v.ownBlock := by
  cases hk : v'.ownBlock with
  | none => exact .inl rfl
  | some g =>
    right
    intro e
    rcases h with h | h
    · rw [h] at e; cases e
    · exact h (by rw [hk, e])

theorem PG.blk_grown (h : PG w B dp z0 z1 z2 z3 z4 va na xa vb nb xb vc nc xc) {row : Option Nat} (hg : w.grownBy w' row) (hr : row ≠ some dp) : w'.heap[dp]? = some (.cells #[.int .i64 z0, .int .i64 z1, .int .i64 z2, .int .i64 z3, .int .i64 z4, va, vb, vc] 33 (0, 0)) := by
  rw [hg.block dp h.dp_lt (fun e => hr e.symm)]
  exact h.blk

theorem new_far {v v' u : Value} {N : Nat} (h0 : v.ownBlock = none ∨ v.ownBlock ≠ u.ownBlock) (hu : ∀ k, u.ownBlock = some k → k < N) (hv : v'.ownBlock = v.ownBlock ∨ v'.ownBlock = some N) : v'.ownBlock = none ∨ v'.ownBlock ≠ u.ownBlock := by
  rcases hv with hv | hv
  · rw [hv]; exact h0
  · right
    rw [hv]
    intro e
    have := hu N e.symm
    omega

theorem PG.put5 (h : PG w B dp z0 z1 z2 z3 z4 va na xa vb nb xb vc nc xc) {v' : Value} {m : Nat} {news : List Value} (hg : w.grownBy w' va.ownBlock) (ho : w'.ownsRow B 37 4 v' m news) (hv : v'.ownBlock = va.ownBlock ∨ v'.ownBlock = some w.heap.size) :
    PG (w'.setCell ⟨dp, 5, none⟩ v') B dp z0 z1 z2 z3 z4 v' m news vb nb xb vc nc xc := by
  have hb := h.blk_grown hg (own_blk h.oa h.blk (by decide))
  have kb := h.ob.kept hg (far_symm h.far)
  have kc := h.oc.kept hg (own_far h.oc h.oa (by decide))
  exact ⟨heap_setCell_same w' dp 5 _ 33 v' hb, h.low, ownsRow_setCell_other ho (own_blk ho hb (by decide)) _, ownsRow_setCell_other kb (own_blk kb hb (by decide)) _, ownsRow_setCell_other kc (own_blk kc hb (by decide)) _, new_far h.far (fun k hk => (h.ob.lt k hk).2) hv⟩
theorem PG.put6 (h : PG w B dp z0 z1 z2 z3 z4 va na xa vb nb xb vc nc xc) {v' : Value} {m : Nat} {news : List Value} (hg : w.grownBy w' vb.ownBlock) (ho : w'.ownsRow B 37 4 v' m news) (hv : v'.ownBlock = vb.ownBlock ∨ v'.ownBlock = some w.heap.size) :
    PG (w'.setCell ⟨dp, 6, none⟩ v') B dp z0 z1 z2 z3 z4 va na xa v' m news vc nc xc := by
  have hb := h.blk_grown hg (own_blk h.ob h.blk (by decide))
  have ka := h.oa.kept hg h.far
  have kc := h.oc.kept hg (own_far h.oc h.ob (by decide))
  exact ⟨heap_setCell_same w' dp 6 _ 33 v' hb, h.low, ownsRow_setCell_other ka (own_blk ka hb (by decide)) _, ownsRow_setCell_other ho (own_blk ho hb (by decide)) _, ownsRow_setCell_other kc (own_blk kc hb (by decide)) _, far_symm (new_far (far_symm h.far) (fun k hk => (h.oa.lt k hk).2) hv)⟩
theorem PG.put7 (h : PG w B dp z0 z1 z2 z3 z4 va na xa vb nb xb vc nc xc) {v' : Value} {m : Nat} {news : List Value} (hg : w.grownBy w' vc.ownBlock) (ho : w'.ownsRow B 3 1 v' m news) (hv : v'.ownBlock = vc.ownBlock ∨ v'.ownBlock = some w.heap.size) :
    PG (w'.setCell ⟨dp, 7, none⟩ v') B dp z0 z1 z2 z3 z4 va na xa vb nb xb v' m news := by
  have hb := h.blk_grown hg (own_blk h.oc h.blk (by decide))
  have ka := h.oa.kept hg (own_far h.oa h.oc (by decide))
  have kb := h.ob.kept hg (own_far h.ob h.oc (by decide))
  have _ := hv
  exact ⟨heap_setCell_same w' dp 7 _ 33 v' hb, h.low, ownsRow_setCell_other ka (own_blk ka hb (by decide)) _, ownsRow_setCell_other kb (own_blk kb hb (by decide)) _, ownsRow_setCell_other ho (own_blk ho hb (by decide)) _, h.far⟩

theorem PG.put_int (h : PG w B dp z0 z1 z2 z3 z4 va na xa vb nb xb vc nc xc) (y0 y1 y2 y3 y4 : Int) :
    PG (((((w.setCell ⟨dp, 0, none⟩ (.int .i64 y0)).setCell ⟨dp, 1, none⟩ (.int .i64 y1)).setCell ⟨dp, 2, none⟩ (.int .i64 y2)).setCell ⟨dp, 3, none⟩ (.int .i64 y3)).setCell ⟨dp, 4, none⟩ (.int .i64 y4)) B dp y0 y1 y2 y3 y4 va na xa vb nb xb vc nc xc := by
  have fa := own_blk h.oa h.blk (by decide)
  have fb := own_blk h.ob h.blk (by decide)
  have fc := own_blk h.oc h.blk (by decide)
  have k0 := heap_setCell_same w dp 0 _ 33 (.int .i64 y0) h.blk
  have k1 := heap_setCell_same _ dp 1 _ 33 (.int .i64 y1) k0
  have k2 := heap_setCell_same _ dp 2 _ 33 (.int .i64 y2) k1
  have k3 := heap_setCell_same _ dp 3 _ 33 (.int .i64 y3) k2
  have k4 := heap_setCell_same _ dp 4 _ 33 (.int .i64 y4) k3
  exact ⟨k4, h.low, ownsRow_setCell_other (ownsRow_setCell_other (ownsRow_setCell_other (ownsRow_setCell_other (ownsRow_setCell_other h.oa fa _) fa _) fa _) fa _) fa _,
    ownsRow_setCell_other (ownsRow_setCell_other (ownsRow_setCell_other (ownsRow_setCell_other (ownsRow_setCell_other h.ob fb _) fb _) fb _) fb _) fb _,
    ownsRow_setCell_other (ownsRow_setCell_other (ownsRow_setCell_other (ownsRow_setCell_other (ownsRow_setCell_other h.oc fc _) fc _) fc _) fc _) fc _, h.far⟩
theorem cutb (x : Option Addr) (n c : Nat) : (Value.slice x 0 c).ownBlock = (Value.slice x n c).ownBlock := by cases x <;> rfl

theorem PG.step5 {w0 : World} {x : Option Addr} {n c : Nat} (h : PG w B dp z0 z1 z2 z3 z4 (.slice x n c) na xa vb nb xb vc nc xc) {v' : Value} {m : Nat} {news : List Value} (hb : Below B w0 w) (hB : B ≤ w.heap.size) (hg : w.drew.grownBy w' (Value.slice x 0 c).ownBlock) (ho : w'.ownsRow B 37 4 v' m news) (hv : v'.ownBlock = (Value.slice x 0 c).ownBlock ∨ v'.ownBlock = some w.drew.heap.size) :
    PG (w'.setCell ⟨dp, 5, none⟩ v') B dp z0 z1 z2 z3 z4 v' m news vb nb xb vc nc xc ∧ Below B w0 (w'.setCell ⟨dp, 5, none⟩ v') := by
  rw [cutb x n c] at hg hv
  exact ⟨h.drew.put5 hg ho hv, (hb.drew.grown hg hB (fun k hk => (h.oa.lt k hk).1)).setCell h.low _⟩
theorem PG.at5 {x : Option Addr} {n c : Nat} (h : PG w B dp z0 z1 z2 z3 z4 (.slice x n c) na xa vb nb xb vc nc xc) {sp : Nat} {cs : Array Value} {u : Value} (hs : w.heap[sp]? = some (.cells cs 33 (0, 0))) (hu : w.cell? ⟨sp, 5, none⟩ = some u) (hg : w.drew.grownBy w' (Value.slice x 0 c).ownBlock) :
    w'.cell? ⟨dp, 5, none⟩ = some (.slice x n c) ∧ w'.frozen? ⟨dp, 5, none⟩ = false ∧ w'.cell? ⟨sp, 5, none⟩ = some u := by
  rw [cutb x n c] at hg
  have hh := h.drew.blk_grown hg (own_blk h.oa h.blk (by decide))
  exact ⟨by simp only [World.cell?, hh]; rfl, frozen_of_row w' dp 5 _ 33 hh, hg.cell hu (fun e => own_blk h.oa hs (by decide) e.symm)⟩

theorem PG.step6 {w0 : World} {x : Option Addr} {n c : Nat} (h : PG w B dp z0 z1 z2 z3 z4 va na xa (.slice x n c) nb xb vc nc xc) {v' : Value} {m : Nat} {news : List Value} (hb : Below B w0 w) (hB : B ≤ w.heap.size) (hg : w.drew.grownBy w' (Value.slice x 0 c).ownBlock) (ho : w'.ownsRow B 37 4 v' m news) (hv : v'.ownBlock = (Value.slice x 0 c).ownBlock ∨ v'.ownBlock = some w.drew.heap.size) :
    PG (w'.setCell ⟨dp, 6, none⟩ v') B dp z0 z1 z2 z3 z4 va na xa v' m news vc nc xc ∧ Below B w0 (w'.setCell ⟨dp, 6, none⟩ v') := by
  rw [cutb x n c] at hg hv
  exact ⟨h.drew.put6 hg ho hv, (hb.drew.grown hg hB (fun k hk => (h.ob.lt k hk).1)).setCell h.low _⟩
theorem PG.at6 {x : Option Addr} {n c : Nat} (h : PG w B dp z0 z1 z2 z3 z4 va na xa (.slice x n c) nb xb vc nc xc) {sp : Nat} {cs : Array Value} {u : Value} (hs : w.heap[sp]? = some (.cells cs 33 (0, 0))) (hu : w.cell? ⟨sp, 6, none⟩ = some u) (hg : w.drew.grownBy w' (Value.slice x 0 c).ownBlock) :
    w'.cell? ⟨dp, 6, none⟩ = some (.slice x n c) ∧ w'.frozen? ⟨dp, 6, none⟩ = false ∧ w'.cell? ⟨sp, 6, none⟩ = some u := by
  rw [cutb x n c] at hg
  have hh := h.drew.blk_grown hg (own_blk h.ob h.blk (by decide))
  exact ⟨by simp only [World.cell?, hh]; rfl, frozen_of_row w' dp 6 _ 33 hh, hg.cell hu (fun e => own_blk h.ob hs (by decide) e.symm)⟩

theorem PG.step7 {w0 : World} {x : Option Addr} {n c : Nat} (h : PG w B dp z0 z1 z2 z3 z4 va na xa vb nb xb (.slice x n c) nc xc) {v' : Value} {m : Nat} {news : List Value} (hb : Below B w0 w) (hB : B ≤ w.heap.size) (hg : w.drew.grownBy w' (Value.slice x 0 c).ownBlock) (ho : w'.ownsRow B 3 1 v' m news) (hv : v'.ownBlock = (Value.slice x 0 c).ownBlock ∨ v'.ownBlock = some w.drew.heap.size) :
    PG (w'.setCell ⟨dp, 7, none⟩ v') B dp z0 z1 z2 z3 z4 va na xa vb nb xb v' m news ∧ Below B w0 (w'.setCell ⟨dp, 7, none⟩ v') := by
  rw [cutb x n c] at hg hv
  exact ⟨h.drew.put7 hg ho hv, (hb.drew.grown hg hB (fun k hk => (h.oc.lt k hk).1)).setCell h.low _⟩
theorem PG.at7 {x : Option Addr} {n c : Nat} (h : PG w B dp z0 z1 z2 z3 z4 va na xa vb nb xb (.slice x n c) nc xc) {sp : Nat} {cs : Array Value} {u : Value} (hs : w.heap[sp]? = some (.cells cs 33 (0, 0))) (hu : w.cell? ⟨sp, 7, none⟩ = some u) (hg : w.drew.grownBy w' (Value.slice x 0 c).ownBlock) :
    w'.cell? ⟨dp, 7, none⟩ = some (.slice x n c) ∧ w'.frozen? ⟨dp, 7, none⟩ = false ∧ w'.cell? ⟨sp, 7, none⟩ = some u := by
  rw [cutb x n c] at hg
  have hh := h.drew.blk_grown hg (own_blk h.oc h.blk (by decide))
  exact ⟨by simp only [World.cell?, hh]; rfl, frozen_of_row w' dp 7 _ 33 hh, hg.cell hu (fun e => own_blk h.oc hs (by decide) e.symm)⟩
end

end Go.Proofs.Ybulkawqg.A
