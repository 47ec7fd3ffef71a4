/-
  A state's rows, written to; what the loops of LawS2398ACopy keep.
-/
import Derived.Test.YbulkawqgAmem
namespace Go.Proofs.Ybulkawqg.A
open Go.RowKit

section
variable {w : World} {B dp g n c : Nat} {z0 z1 z2 z3 z4 : Int} {va : Value} {na : Nat} {xa : List Value} {vb : Value} {nb : Nat} {xb : List Value} {vc : Value} {nc : Nat} {xc : List Value} {xs : List Value}

theorem far_some {g : Nat} {x : Option Nat} (h : some g = none ∨ some g ≠ x) : x ≠ some g := fun e => by
  rcases h with h | h
  · cases h
  · exact h e.symm
theorem far_other {g : Nat} {x : Option Nat} (h : x = none ∨ x ≠ some g) : x ≠ some g := fun e => by
  rcases h with h | h
  · rw [h] at e; cases e
  · exact h e

theorem PG.setA (h : PG w B dp z0 z1 z2 z3 z4 (.slice (some ⟨g, 0, none⟩) n c) n xs vb nb xb vc nc xc) (j : Nat) (u : Value) :
    PG (w.setCell ⟨g, j, none⟩ u) B dp z0 z1 z2 z3 z4 (.slice (some ⟨g, 0, none⟩) n c) n (xs.set j u) vb nb xb vc nc xc := by
  have hne : dp ≠ g := fun e => own_blk h.oa h.blk (by decide) (by rw [e]; rfl)
  have fb : vb.ownBlock ≠ some g := far_some h.far
  have fc : vc.ownBlock ≠ some g := far_other (own_far h.oc h.oa (by decide))
  have hblk : (w.setCell ⟨g, j, none⟩ u).heap[dp]? = w.heap[dp]? := Below.heap_setCell w ⟨g, j, none⟩ u dp hne
  exact ⟨hblk.trans h.blk, h.low, (h.oa.stored j u).1, ownsRow_setCell_other (a := ⟨g, j, none⟩) h.ob fb u, ownsRow_setCell_other (a := ⟨g, j, none⟩) h.oc fc u, h.far⟩
theorem PG.setB (h : PG w B dp z0 z1 z2 z3 z4 va na xa (.slice (some ⟨g, 0, none⟩) n c) n xs vc nc xc) (j : Nat) (u : Value) :
    PG (w.setCell ⟨g, j, none⟩ u) B dp z0 z1 z2 z3 z4 va na xa (.slice (some ⟨g, 0, none⟩) n c) n (xs.set j u) vc nc xc := by
  have hne : dp ≠ g := fun e => own_blk h.ob h.blk (by decide) (by rw [e]; rfl)
  have fa : va.ownBlock ≠ some g := far_other h.far
  have fc : vc.ownBlock ≠ some g := far_other (own_far h.oc h.ob (by decide))
  have hblk : (w.setCell ⟨g, j, none⟩ u).heap[dp]? = w.heap[dp]? := Below.heap_setCell w ⟨g, j, none⟩ u dp hne
  exact ⟨hblk.trans h.blk, h.low, ownsRow_setCell_other (a := ⟨g, j, none⟩) h.oa fa u, (h.ob.stored j u).1, ownsRow_setCell_other (a := ⟨g, j, none⟩) h.oc fc u, h.far⟩
theorem PG.setC (h : PG w B dp z0 z1 z2 z3 z4 va na xa vb nb xb (.slice (some ⟨g, 0, none⟩) n c) n xs) (j : Nat) (u : Value) :
    PG (w.setCell ⟨g, j, none⟩ u) B dp z0 z1 z2 z3 z4 va na xa vb nb xb (.slice (some ⟨g, 0, none⟩) n c) n (xs.set j u) := by
  have hne : dp ≠ g := fun e => own_blk h.oc h.blk (by decide) (by rw [e]; rfl)
  have fa : va.ownBlock ≠ some g := far_other (own_far h.oa h.oc (by decide))
  have fb : vb.ownBlock ≠ some g := far_other (own_far h.ob h.oc (by decide))
  have hblk : (w.setCell ⟨g, j, none⟩ u).heap[dp]? = w.heap[dp]? := Below.heap_setCell w ⟨g, j, none⟩ u dp hne
  exact ⟨hblk.trans h.blk, h.low, ownsRow_setCell_other (a := ⟨g, j, none⟩) h.oa fa u, ownsRow_setCell_other (a := ⟨g, j, none⟩) h.ob fb u, (h.oc.stored j u).1, h.far⟩
end

/-- From index k on the row holds what it held. -/
def FromK (qs : List Quad) (k : Nat) (xs : List Value) : Prop := ∀ i, k * 4 ≤ i → i < qs.length * 4 → xs[i]? = some (qf qs i)
def FromI (zs : List Int) (k : Nat) (xs : List Value) : Prop := ∀ i, k ≤ i → i < zs.length → xs[i]? = some (.int .i64 (zs.getD i 0))

theorem fromK_start (qs : List Quad) : FromK qs 0 (q4 qs) := fun i _ hi => by simp [q4, hi]
theorem fromI_start (zs : List Int) : FromI zs 0 (i64s zs) := fun i _ hi => by simp [i64s, hi]
theorem FromK.next {qs : List Quad} {k : Nat} {xs : List Value} (h : FromK qs k xs) (u v : Value) : FromK qs (k + 1) ((xs.set (k * 4 + 3) u).set (k * 4 + 2) v) := fun i hi hl => by
  rw [List.getElem?_set_ne (by omega), List.getElem?_set_ne (by omega)]
  exact h i (by omega) hl
theorem FromI.next {zs : List Int} {k : Nat} {xs : List Value} (h : FromI zs k xs) (u : Value) : FromI zs (k + 1) (xs.set k u) := fun i hi hl => by
  rw [List.getElem?_set_ne (by omega)]
  exact h i (by omega) hl

/-- The strings in the elements are no longer than memory. -/
def Bounded (qs : List Quad) : Prop := ∀ i, (qs.getD i quad0).2.2.1.size ≤ 9223372036854775806

/-- What a round reads. -/
theorem round_kc {w : World} {B : Nat} {x : Option Addr} {c : Nat} {qs : List Quad} {k : Nat} {xs : List Value} (h : w.ownsRow B 37 4 (.slice x qs.length c) qs.length xs) (hf : FromK qs k xs) (hk : k < qs.length) :
    ∃ g, x = some ⟨g, 0, none⟩ ∧ B ≤ g ∧ g < w.heap.size ∧ w.cell? ⟨g, k * 4 + 3, none⟩ = some (.int .i64 (qs.getD k quad0).2.2.2) ∧ w.cell? ⟨g, k * 4 + 2, none⟩ = some (.string (qs.getD k quad0).2.2.1) ∧ (∀ i, w.frozen? ⟨g, i, none⟩ = false) := by
  obtain ⟨g, cap, e, hb, hlt⟩ := h.form (by omega)
  obtain ⟨rfl, rfl⟩ : x = some ⟨g, 0, none⟩ ∧ c = cap := by simpa using e
  refine ⟨g, rfl, hb, hlt, ?_, ?_, fun i => h.frozenAt i⟩
  · rw [h.cellAt _ (by omega), hf _ (by omega) (by omega), qf_at qs k 3 (by decide)]; rfl
  · rw [h.cellAt _ (by omega), hf _ (by omega) (by omega), qf_at qs k 2 (by decide)]; rfl
theorem round_int {w : World} {B : Nat} {x : Option Addr} {c : Nat} {zs : List Int} {k : Nat} {xs : List Value} (h : w.ownsRow B 3 1 (.slice x zs.length c) zs.length xs) (hf : FromI zs k xs) (hk : k < zs.length) :
    ∃ g, x = some ⟨g, 0, none⟩ ∧ B ≤ g ∧ g < w.heap.size ∧ w.cell? ⟨g, k, none⟩ = some (.int .i64 (zs.getD k 0)) ∧ (∀ i, w.frozen? ⟨g, i, none⟩ = false) := by
  obtain ⟨g, cap, e, hb, hlt⟩ := h.form (by omega)
  obtain ⟨rfl, rfl⟩ : x = some ⟨g, 0, none⟩ ∧ c = cap := by simpa using e
  refine ⟨g, rfl, hb, hlt, ?_, fun i => h.frozenAt i⟩
  rw [h.cellAt _ (by omega), hf _ (by omega) (by omega)]

/-- An argument, boxed. -/
def Boxed (w : World) (b : Nat) (cs : Array Value) : Prop := w.heap[b]? = some (.cells cs 25 (0, 0))
theorem Boxed.cell {w : World} {b : Nat} {cs : Array Value} (h : Boxed w b cs) (i : Nat) (v : Value) (hv : cs[i]? = some v) : w.cell? ⟨b, i, none⟩ = some v := by
  have hb : w.heap[b]? = _ := h
  simp only [World.cell?, hb]
  simpa using hv
theorem Boxed.below {w w' : World} {B b : Nat} {cs : Array Value} (h : Boxed w b cs) (hb : Below B w w') (hB : b < B) : Boxed w' b cs := by
  show w'.heap[b]? = _
  rw [hb.block b hB]
  exact h
end Go.Proofs.Ybulkawqg.A
