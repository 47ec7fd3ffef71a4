/-
  Plain law, no Go in sight: the invariant of the walk for strongly connected components.
-/
import Derived.Test.YbulkawqgPlain
namespace Go.Proofs.Ybulkawqg.Plain

/-- A function turned at one place. -/
def upd {α : Type} (f : Nat → α) (i : Nat) (v : α) : Nat → α := fun j => if j = i then v else f j
theorem upd_same {α : Type} (f : Nat → α) (i : Nat) (v : α) : upd f i v i = v := by simp [upd]
theorem upd_other {α : Type} (f : Nat → α) {i j : Nat} (v : α) (h : j ≠ i) : upd f i v j = f j := by simp [upd, h]

/-- The sum of f over the numbers below n. -/
def sumTo (f : Nat → Nat) : Nat → Nat
  | 0 => 0
  | n + 1 => sumTo f n + f n
theorem sumTo_congr {f g : Nat → Nat} : ∀ (n : Nat), (∀ i, i < n → f i = g i) → sumTo f n = sumTo g n
  | 0, _ => rfl
  | n + 1, h => by
    simp only [sumTo]
    rw [sumTo_congr n (fun i hi => h i (by omega)), h n (by omega)]
theorem sumTo_turn {f g : Nat → Nat} {v : Nat} : ∀ (n : Nat), v < n → (∀ i, i < n → i ≠ v → f i = g i) → sumTo f n + g v = sumTo g n + f v
  | 0, h, _ => by omega
  | n + 1, h, hh => by
    simp only [sumTo]
    by_cases e : v = n
    · subst e
      rw [sumTo_congr v (fun i hi => hh i (by omega) (by omega))]
      omega
    · have := sumTo_turn n (v := v) (by omega) (fun i hi hne => hh i (by omega) hne)
      rw [hh n (by omega) (fun e' => e e'.symm)]
      omega
theorem sumTo_const (c : Nat) : ∀ n, sumTo (fun _ => c) n = n * c
  | 0 => by simp [sumTo]
  | n + 1 => by simp only [sumTo, sumTo_const c n]; rw [Nat.succ_mul]

structure St where
  ord : Nat → Int
  low : Nat → Int
  comp : Nat → Int
  stk : List Nat
  wlk : List (Nat × Nat)
  vis : Nat
  fnd : Nat
  pe : Nat → Nat

/-- How many vertices are not yet visited. -/
def St.unv (s : St) (n : Nat) : Nat := sumTo (fun u => if s.ord u = -1 then 1 else 0) n

structure TI (adj : Nat → List Nat) (n : Nat) (s : St) : Prop where
  sn : ∀ x, x ∈ s.stk → x < n
  ordR : ∀ u, u < n → s.ord u = -1 ∨ (0 ≤ s.ord u ∧ s.ord u < s.vis)
  compR : ∀ u, u < n → s.comp u = -1 ∨ (0 ≤ s.comp u ∧ s.comp u < s.fnd)
  mem : ∀ u, u < n → (u ∈ s.stk ↔ s.ord u ≠ -1 ∧ s.comp u = -1)
  done : ∀ u, u < n → s.comp u ≠ -1 → s.ord u ≠ -1
  srt : s.stk.Pairwise (fun a b => s.ord a < s.ord b)
  wmem : ∀ v e, (v, e) ∈ s.wlk → v ∈ s.stk ∧ e ≤ (adj v).length ∧ s.pe v = e
  wsrt : s.wlk.Pairwise (fun p q => s.ord p.1 < s.ord q.1 ∧ Reach adj p.1 q.1)
  pfull : ∀ u, u ∈ s.stk → (∀ e, (u, e) ∉ s.wlk) → s.pe u = (adj u).length
  seen : ∀ u, u ∈ s.stk → ∀ x, x ∈ (adj u).take (s.pe u) → s.ord x ≠ -1
  clo : ∀ u, u < n → s.comp u ≠ -1 → ∀ x, x ∈ adj u → s.comp x ≠ -1
  dwn : ∀ v e, (v, e) ∈ s.wlk → ∀ x, x ∈ s.stk → s.ord v ≤ s.ord x → Reach adj v x
  up : ∀ x, x ∈ s.stk → ∃ v e, (v, e) ∈ s.wlk ∧ s.ord v ≤ s.ord x ∧ Reach adj x v
  lowle : ∀ v e, (v, e) ∈ s.wlk → s.low v ≤ s.ord v
  lowat : ∀ v e, (v, e) ∈ s.wlk → ∃ y, y ∈ s.stk ∧ s.ord y = s.low v ∧ Reach adj v y
  lowlb : ∀ v e, (v, e) ∈ s.wlk → ∀ x, x ∈ s.stk → s.ord v ≤ s.ord x → (∀ v' e', (v', e') ∈ s.wlk → s.ord v < s.ord v' → s.ord x < s.ord v') →
    ∀ y, y ∈ (adj x).take (s.pe x) → y ∈ s.stk → s.low v ≤ s.ord y
  scc : ∀ u w, u < n → w < n → s.comp u ≠ -1 → s.comp w ≠ -1 → (s.comp u = s.comp w ↔ Reach adj u w ∧ Reach adj w u)
  cnt : s.vis + s.unv n = n
  fndle : s.fnd + s.stk.length ≤ s.vis

section
variable {adj : Nat → List Nat} {n : Nat} {s : St}

theorem TI.stkord (h : TI adj n s) {x : Nat} (hx : x ∈ s.stk) : 0 ≤ s.ord x ∧ s.ord x < s.vis := by
  have hn := h.sn x hx
  have h1 := ((h.mem x hn).1 hx).1
  rcases h.ordR x hn with h2 | h2
  · exact absurd h2 h1
  · exact h2

/-- Two on the stack of one place are one. -/
theorem pairwise_inj {f : Nat → Int} : ∀ {l : List Nat}, l.Pairwise (fun a b => f a < f b) → ∀ {x y : Nat}, x ∈ l → y ∈ l → f x = f y → x = y
  | [], _, _, _, hx, _, _ => by cases hx
  | a :: l, h, x, y, hx, hy, e => by
    rw [List.pairwise_cons] at h
    rcases List.mem_cons.1 hx with hx | hx
    · rcases List.mem_cons.1 hy with hy | hy
      · rw [hx, hy]
      · have := h.1 y hy; rw [← hx] at this; omega
    · rcases List.mem_cons.1 hy with hy | hy
      · have := h.1 x hx; rw [← hy] at this; omega
      · exact pairwise_inj h.2 hx hy e

theorem TI.inj (h : TI adj n s) {x y : Nat} (hx : x ∈ s.stk) (hy : y ∈ s.stk) (e : s.ord x = s.ord y) : x = y := pairwise_inj h.srt hx hy e

/-- The last frame is above all others. -/
theorem TI.top (h : TI adj n s) {w0 : List (Nat × Nat)} {v e : Nat} (hw : s.wlk = w0 ++ [(v, e)]) : ∀ x e', (x, e') ∈ w0 → s.ord x < s.ord v ∧ Reach adj x v := by
  intro x e' hx
  have := h.wsrt
  rw [hw, List.pairwise_append] at this
  exact this.2.2 (x, e') hx (v, e) (by simp)

/-- From every frame the last one is reached. -/
theorem TI.toTop (h : TI adj n s) {w0 : List (Nat × Nat)} {v e : Nat} (hw : s.wlk = w0 ++ [(v, e)]) : ∀ x e', (x, e') ∈ s.wlk → s.ord x ≤ s.ord v ∧ Reach adj x v := by
  intro x e' hx
  rw [hw] at hx
  rcases List.mem_append.1 hx with hx | hx
  · have := h.top hw x e' hx
    exact ⟨by omega, this.2⟩
  · simp at hx
    obtain ⟨rfl, rfl⟩ := hx
    exact ⟨Int.le_refl _, Reach.refl _⟩

theorem TI.empty (h : TI adj n s) (hw : s.wlk = []) : s.stk = [] := by
  cases hs : s.stk with
  | nil => rfl
  | cons x l =>
    obtain ⟨v, e, hv, _⟩ := h.up x (by rw [hs]; simp)
    rw [hw] at hv; cases hv

/-- At the end: one number exactly where each reaches the other. -/
theorem TI.fin (h : TI adj n s) (hw : s.wlk = []) (hall : ∀ u, u < n → s.ord u ≠ -1) (u w : Nat) (hu : u < n) (hw' : w < n) : s.comp u = s.comp w ↔ Reach adj u w ∧ Reach adj w u := by
  have key : ∀ x, x < n → s.comp x ≠ -1 := by
    intro x hx e
    have := (h.mem x hx).2 ⟨hall x hx, e⟩
    rw [h.empty hw] at this; cases this
  exact h.scc u w hu hw' (key u hu) (key w hw')

/-- Done vertices lead to done vertices alone. -/
theorem TI.closed (h : TI adj n s) (hA : ∀ u, u < n → ∀ x, x ∈ adj u → x < n) {u w : Nat} (hr : Reach adj u w) (hu : u < n) (hc : s.comp u ≠ -1) : s.comp w ≠ -1 :=
  (hr.keeps (p := fun x => x < n ∧ s.comp x ≠ -1) (fun x hx y hy => ⟨hA x hx.1 y hy, h.clo x hx.1 hx.2 y hy⟩) ⟨hu, hc⟩).2
end

end Go.Proofs.Ybulkawqg.Plain
