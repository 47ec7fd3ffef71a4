/-
  Plain law, no Go in sight: paths in a graph, and the closure by rounds (Warshall).
-/
namespace Go.Proofs.Ybulkawqg.Plain

/-- A path of k edges. -/
def Path (adj : Nat → List Nat) : Nat → Nat → Nat → Prop
  | 0, u, v => u = v
  | k + 1, u, v => ∃ x, x ∈ adj u ∧ Path adj k x v

def Reach (adj : Nat → List Nat) (u v : Nat) : Prop := ∃ k, Path adj k u v

section
variable {adj : Nat → List Nat}

theorem Reach.refl (u : Nat) : Reach adj u u := ⟨0, rfl⟩
theorem Reach.head {u x v : Nat} (h : x ∈ adj u) (r : Reach adj x v) : Reach adj u v := by
  obtain ⟨k, hk⟩ := r
  exact ⟨k + 1, x, h, hk⟩
theorem Reach.edge {u v : Nat} (h : v ∈ adj u) : Reach adj u v := Reach.head h (Reach.refl v)
theorem path_trans : ∀ (k : Nat) {u v x : Nat}, Path adj k u v → Reach adj v x → Reach adj u x
  | 0, u, v, x, h, r => by
    have e : u = v := h
    rw [e]; exact r
  | k + 1, u, v, x, h, r => by
    obtain ⟨y, hy, hp⟩ := h
    exact Reach.head hy (path_trans k hp r)
theorem Reach.trans {u v x : Nat} (h : Reach adj u v) (r : Reach adj v x) : Reach adj u x := by
  obtain ⟨k, hk⟩ := h
  exact path_trans k hk r
/-- A set that is closed under edges is closed under paths. -/
theorem path_keeps {p : Nat → Prop} (hp : ∀ u, p u → ∀ x, x ∈ adj u → p x) : ∀ (k : Nat) {u v : Nat}, Path adj k u v → p u → p v
  | 0, u, v, h, hu => by
    have e : u = v := h
    rw [← e]; exact hu
  | k + 1, u, v, h, hu => by
    obtain ⟨y, hy, hq⟩ := h
    exact path_keeps hp k hq (hp u hu y hy)
theorem Reach.keeps {p : Nat → Prop} (hp : ∀ u, p u → ∀ x, x ∈ adj u → p x) {u v : Nat} (h : Reach adj u v) (hu : p u) : p v := by
  obtain ⟨k, hk⟩ := h
  exact path_keeps hp k hk hu
end

/-- Joined by way of vertices below k. -/
def Via (adj : Nat → List Nat) : Nat → Nat → Nat → Prop
  | 0, i, j => i = j ∨ j ∈ adj i
  | k + 1, i, j => Via adj k i j ∨ (Via adj k i k ∧ Via adj k k j)

theorem Via.mono {adj : Nat → List Nat} {i j : Nat} : ∀ {k m : Nat}, k ≤ m → Via adj k i j → Via adj m i j := by
  intro k m h
  induction m with
  | zero => intro hv; have : k = 0 := by omega
            subst this; exact hv
  | succ m ih =>
    intro hv
    by_cases e : k = m + 1
    · subst e; exact hv
    · exact Or.inl (ih (by omega) hv)

theorem Via.trans {adj : Nat → List Nat} : ∀ (k : Nat) {i m j : Nat}, m < k → Via adj k i m → Via adj k m j → Via adj k i j := by
  intro k
  induction k with
  | zero => intro i m j h; omega
  | succ k ih =>
    intro i m j h h1 h2
    by_cases e : m = k
    · subst e
      have a : Via adj m i m := by rcases h1 with h1 | ⟨h1, _⟩ <;> exact h1
      have b : Via adj m m j := by rcases h2 with h2 | ⟨_, h2⟩ <;> exact h2
      exact Or.inr ⟨a, b⟩
    · have hm : m < k := by omega
      rcases h1 with h1 | ⟨h1, h1'⟩
      · rcases h2 with h2 | ⟨h2, h2'⟩
        · exact Or.inl (ih hm h1 h2)
        · exact Or.inr ⟨ih hm h1 h2, h2'⟩
      · rcases h2 with h2 | ⟨_, h2'⟩
        · exact Or.inr ⟨h1, ih hm h1' h2⟩
        · exact Or.inr ⟨h1, h2'⟩

theorem via_of_path {adj : Nat → List Nat} {n : Nat} (hA : ∀ u, u < n → ∀ x, x ∈ adj u → x < n) : ∀ (k : Nat) {i j : Nat}, i < n → Path adj k i j → Via adj n i j
  | 0, i, j, _, h => Via.mono (Nat.zero_le _) (Or.inl h)
  | k + 1, i, j, hi, h => by
    obtain ⟨x, hx, hp⟩ := h
    have hxn := hA i hi x hx
    exact Via.trans n hxn (Via.mono (Nat.zero_le _) (Or.inr hx)) (via_of_path hA k hxn hp)

/-- What r holds is true. -/
def Sound (adj : Nat → List Nat) (n : Nat) (r : Nat → Nat → Bool) : Prop := ∀ i j, i < n → j < n → r i j = true → Reach adj i j
/-- All that is joined by way of vertices below k is held. -/
def Full (adj : Nat → List Nat) (n k : Nat) (r : Nat → Nat → Bool) : Prop := ∀ i j, i < n → j < n → Via adj k i j → r i j = true
/-- Of the rows below i the next round is done. -/
def Rows (adj : Nat → List Nat) (n k i : Nat) (r : Nat → Nat → Bool) : Prop := ∀ i' j, i' < i → j < n → Via adj (k + 1) i' j → r i' j = true

/-- One cell turned to true. -/
def put (r : Nat → Nat → Bool) (i j : Nat) : Nat → Nat → Bool := fun a b => if a = i then (if b = j then true else r a b) else r a b

theorem put_keeps {r : Nat → Nat → Bool} {i j a b : Nat} (h : r a b = true) : put r i j a b = true := by
  unfold put; split
  · split
    · rfl
    · exact h
  · exact h
theorem put_self (r : Nat → Nat → Bool) (i j : Nat) : put r i j i j = true := by simp [put]

theorem Full.put {adj : Nat → List Nat} {n k i j : Nat} {r : Nat → Nat → Bool} (h : Full adj n k r) : Full adj n k (put r i j) := fun a b ha hb hv => put_keeps (h a b ha hb hv)
theorem Rows.put {adj : Nat → List Nat} {n k i0 i j : Nat} {r : Nat → Nat → Bool} (h : Rows adj n k i0 r) : Rows adj n k i0 (put r i j) := fun a b ha hb hv => put_keeps (h a b ha hb hv)
theorem Sound.put {adj : Nat → List Nat} {n i j : Nat} {r : Nat → Nat → Bool} (h : Sound adj n r) (hr : Reach adj i j) : Sound adj n (put r i j) := by
  intro a b ha hb hp
  unfold Plain.put at hp
  split at hp
  · rename_i e
    split at hp
    · rename_i e'
      rw [e, e']; exact hr
    · exact h a b ha hb hp
  · exact h a b ha hb hp

theorem full_end {adj : Nat → List Nat} {n : Nat} {r : Nat → Nat → Bool} (hA : ∀ u, u < n → ∀ x, x ∈ adj u → x < n) (hs : Sound adj n r) (hf : Full adj n n r) (i j : Nat) (hi : i < n) (hj : j < n) :
    r i j = true ↔ Reach adj i j := by
  refine ⟨hs i j hi hj, fun h => ?_⟩
  obtain ⟨k, hk⟩ := h
  exact hf i j hi hj (via_of_path hA k hi hk)

theorem rows_end {adj : Nat → List Nat} {n k : Nat} {r : Nat → Nat → Bool} (h : Rows adj n k n r) : Full adj n (k + 1) r := fun i j hi hj hv => h i j hi hj hv
theorem rows_skip {adj : Nat → List Nat} {n k i : Nat} {r : Nat → Nat → Bool} (hi : i < n) (hk : k < n) (hf : Full adj n k r) (h : Rows adj n k i r) (hn : r i k = false) : Rows adj n k (i + 1) r := by
  intro a b ha hb hv
  by_cases e : a = i
  · subst e
    rcases hv with hv | ⟨hv, _⟩
    · exact hf a b hi hb hv
    · have := hf a k hi hk hv
      rw [hn] at this; cases this
  · exact h a b (by omega) hb hv
theorem rows_take {adj : Nat → List Nat} {n k i : Nat} {r : Nat → Nat → Bool} (hi : i < n) (hf : Full adj n k r) (h : Rows adj n k i r) (hj : ∀ j, j < n → Via adj k k j → r i j = true) : Rows adj n k (i + 1) r := by
  intro a b ha hb hv
  by_cases e : a = i
  · subst e
    rcases hv with hv | ⟨_, hv⟩
    · exact hf a b hi hb hv
    · exact hj b hb hv
  · exact h a b (by omega) hb hv

end Go.Proofs.Ybulkawqg.Plain
