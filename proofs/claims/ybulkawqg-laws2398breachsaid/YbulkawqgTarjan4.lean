/-
  Plain law, no Go in sight: the start of the walk for components; a number that every round lowers.
-/
import Derived.Test.YbulkawqgTarjan3
namespace Go.Proofs.Ybulkawqg.Plain

section
variable {adj : Nat → List Nat} {n : Nat} {s : St}

def St.start : St := { ord := fun _ => -1, low := fun _ => 0, comp := fun _ => -1, stk := [], wlk := [], vis := 0, fnd := 0, pe := fun _ => 0 }

theorem TI.start : TI adj n St.start := by
  refine ⟨?_, ?_, ?_, ?_, ?_, ?_, ?_, ?_, ?_, ?_, ?_, ?_, ?_, ?_, ?_, ?_, ?_, ?_, ?_⟩
  · intro x hx; cases hx
  · intro u _; exact Or.inl rfl
  · intro u _; exact Or.inl rfl
  · intro u _
    constructor
    · intro h; cases h
    · rintro ⟨h, _⟩; exact absurd rfl h
  · intro u _ h; exact absurd rfl h
  · exact List.Pairwise.nil
  · intro v e h; cases h
  · exact List.Pairwise.nil
  · intro u h; cases h
  · intro u h; cases h
  · intro u _ h; exact absurd rfl h
  · intro v e h; cases h
  · intro x h; cases h
  · intro v e h; cases h
  · intro v e h; cases h
  · intro v e h; cases h
  · intro u w _ _ h; exact absurd rfl h
  · show 0 + sumTo (fun _ => if (-1 : Int) = -1 then 1 else 0) n = n
    have : sumTo (fun _ => if (-1 : Int) = -1 then 1 else 0) n = n * 1 := sumTo_const 1 n
    omega
  · exact Nat.le_refl _

/-- What is left to do in the frames. -/
def wsum (adj : Nat → List Nat) : List (Nat × Nat) → Nat
  | [] => 0
  | p :: l => (adj p.1).length + 1 - p.2 + wsum adj l
theorem wsum_append (adj : Nat → List Nat) (l m : List (Nat × Nat)) : wsum adj (l ++ m) = wsum adj l + wsum adj m := by
  induction l with
  | nil => simp [wsum]
  | cons p l ih => simp only [List.cons_append, wsum, ih]; omega

def St.mu (adj : Nat → List Nat) (n : Nat) (s : St) : Nat := sumTo (fun u => if s.ord u = -1 then (adj u).length + 1 else 0) n + wsum adj s.wlk

theorem mu_visit {v : Nat} (hv : v < n) (ho : s.ord v = -1) {w0 : List (Nat × Nat)} {u e : Nat} (hw : s.wlk = w0 ++ [(u, e)]) (he : e < (adj u).length) (pe : Nat → Nat) :
    (s.visit v (w0 ++ [(u, e + 1)]) pe).mu adj n < s.mu adj n := by
  have := sumTo_turn (f := fun x => if (s.visit v (w0 ++ [(u, e + 1)]) pe).ord x = -1 then (adj x).length + 1 else 0) (g := fun x => if s.ord x = -1 then (adj x).length + 1 else 0) (v := v) n hv (fun i _ hne => by
    show (if upd s.ord v s.vis i = -1 then (adj i).length + 1 else 0) = _
    rw [upd_other _ _ hne])
  have e1 : (s.visit v (w0 ++ [(u, e + 1)]) pe).ord v = s.vis := upd_same _ _ _
  simp only [e1, ho, if_true] at this
  rw [if_neg (by omega)] at this
  unfold St.mu
  rw [hw]
  have e2 : (s.visit v (w0 ++ [(u, e + 1)]) pe).wlk = w0 ++ [(u, e + 1)] ++ [(v, 0)] := rfl
  rw [e2, wsum_append, wsum_append, wsum_append]
  simp only [wsum]
  omega

theorem mu_pass {w0 : List (Nat × Nat)} {u e : Nat} {l : Int} (hw : s.wlk = w0 ++ [(u, e)]) (he : e < (adj u).length) : (s.pass w0 u e l).mu adj n < s.mu adj n := by
  unfold St.mu
  have e2 : (s.pass w0 u e l).wlk = w0 ++ [(u, e + 1)] := rfl
  have e1 : (s.pass w0 u e l).ord = s.ord := rfl
  rw [hw, e1, e2, wsum_append, wsum_append]
  simp only [wsum]
  omega

theorem mu_fold {w1 : List (Nat × Nat)} {u e' v : Nat} (hw : s.wlk = w1 ++ [(u, e')] ++ [(v, (adj v).length)]) : (s.fold w1 u e' v).mu adj n < s.mu adj n := by
  unfold St.mu
  have e2 : (s.fold w1 u e' v).wlk = w1 ++ [(u, e')] := rfl
  have e1 : (s.fold w1 u e' v).ord = s.ord := rfl
  rw [hw, e1, e2, wsum_append (m := [(v, (adj v).length)])]
  simp only [wsum]
  omega

theorem mu_settle {w0 : List (Nat × Nat)} {v : Nat} {s0 p : List Nat} (hw : s.wlk = w0 ++ [(v, (adj v).length)]) : (s.settle w0 s0 p).mu adj n < s.mu adj n := by
  unfold St.mu
  have e2 : (s.settle w0 s0 p).wlk = w0 := rfl
  have e1 : (s.settle w0 s0 p).ord = s.ord := rfl
  rw [hw, e1, e2, wsum_append]
  simp only [wsum]
  omega


/-- What goes up strictly inside a range is no longer than the range. -/
theorem length_le_range {α : Type} (f : α → Int) (N : Int) : ∀ (l : List α) (lo : Int), l.Pairwise (fun a b => f a < f b) → (∀ a, a ∈ l → lo ≤ f a ∧ f a < N) → (l.length : Int) ≤ max 0 (N - lo)
  | [], _, _, _ => by simp; omega
  | a :: l, lo, hp, h => by
    rw [List.pairwise_cons] at hp
    have ha := h a (by simp)
    have := length_le_range f N l (f a + 1) hp.2 (fun b hb => ⟨by have := hp.1 b hb; omega, (h b (by simp [hb])).2⟩)
    simp only [List.length_cons]
    omega

theorem TI.walkLen (h : TI adj n s) : s.wlk.length ≤ s.vis := by
  have := length_le_range (fun p : Nat × Nat => s.ord p.1) (s.vis : Int) s.wlk 0 (List.Pairwise.imp (fun hab => hab.1) h.wsrt) (fun p hp => by
    have := h.stkord (h.wmem p.1 p.2 hp).1
    exact this)
  omega
theorem TI.visLen (h : TI adj n s) : s.vis ≤ n := by have := h.cnt; omega
theorem TI.stkLen (h : TI adj n s) : s.stk.length ≤ n := by have := h.cnt; have := h.fndle; omega
end

end Go.Proofs.Ybulkawqg.Plain
