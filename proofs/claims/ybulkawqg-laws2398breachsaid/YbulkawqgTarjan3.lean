/-
  Plain law, no Go in sight: an edge to a vertex that was visited; a frame is left; a component is settled.
-/
import Derived.Test.YbulkawqgTarjan2
namespace Go.Proofs.Ybulkawqg.Plain

section
variable {adj : Nat → List Nat} {n : Nat} {s : St}

/-- An edge of the last frame's vertex is passed; its low may go down to l. -/
def St.pass (s : St) (w0 : List (Nat × Nat)) (u e : Nat) (l : Int) : St :=
  { s with low := upd s.low u l, wlk := w0 ++ [(u, e + 1)], pe := upd s.pe u (e + 1) }

theorem TI.pass (h : TI adj n s) (hA : ∀ u, u < n → ∀ x, x ∈ adj u → x < n) {w0 : List (Nat × Nat)} {u e : Nat} {l : Int} (hw : s.wlk = w0 ++ [(u, e)]) (he : e < (adj u).length)
    (ho : s.ord (adj u)[e] ≠ -1) (hl : l ≤ s.low u) (hl' : s.comp (adj u)[e] = -1 → l ≤ s.ord (adj u)[e]) (hat : l = s.low u ∨ (l = s.ord (adj u)[e] ∧ s.comp (adj u)[e] = -1)) :
    TI adj n (s.pass w0 u e l) := by
  have huw : (u, e) ∈ s.wlk := by rw [hw]; simp
  obtain ⟨hus, hue, hup⟩ := h.wmem u e huw
  have hun := h.sn u hus
  have hvm : (adj u)[e] ∈ adj u := List.getElem_mem he
  generalize hv' : (adj u)[e] = v at *
  have hvn : v < n := hA u hun v hvm
  have wm : ∀ {x e'}, (x, e') ∈ w0 ++ [(u, e + 1)] → (x = u ∧ e' = e + 1) ∨ ((x, e') ∈ w0 ∧ x ≠ u ∧ s.ord x < s.ord u) := by
    intro x e' hx
    rcases List.mem_append.1 hx with hx | hx
    · right
      have h1 := (h.top hw x e' hx).1
      exact ⟨hx, fun e => by rw [e] at h1; omega, h1⟩
    · simp at hx; left; exact hx
  have wo : ∀ {x e'}, (x, e') ∈ s.wlk → ∃ e'', (x, e'') ∈ w0 ++ [(u, e + 1)] := by
    intro x e' hx
    rw [hw] at hx
    rcases List.mem_append.1 hx with hx | hx
    · exact ⟨e', by simp [hx]⟩
    · simp at hx; obtain ⟨rfl, _⟩ := hx
      exact ⟨e + 1, by simp⟩
  have ow : ∀ {x e'}, (x, e') ∈ w0 ++ [(u, e + 1)] → ∃ e'', (x, e'') ∈ s.wlk := by
    intro x e' hx
    rcases wm hx with ⟨rfl, _⟩ | ⟨hh, _⟩
    · exact ⟨e, huw⟩
    · exact ⟨e', by rw [hw]; exact List.mem_append_left _ hh⟩
  refine ⟨h.sn, h.ordR, h.compR, h.mem, h.done, h.srt, ?_, ?_, ?_, ?_, h.clo, ?_, ?_, ?_, ?_, ?_, h.scc, h.cnt, h.fndle⟩
  · intro x e' hx
    show x ∈ s.stk ∧ e' ≤ (adj x).length ∧ upd s.pe u (e + 1) x = e'
    rcases wm hx with ⟨rfl, rfl⟩ | ⟨hh, h1, _⟩
    · exact ⟨hus, by omega, upd_same _ _ _⟩
    · obtain ⟨h4, h5, h6⟩ := h.wmem x e' (by rw [hw]; exact List.mem_append_left _ hh)
      exact ⟨h4, h5, by rw [upd_other _ _ h1]; exact h6⟩
  · show (w0 ++ [(u, e + 1)]).Pairwise (fun (p q : Nat × Nat) => s.ord p.1 < s.ord q.1 ∧ Reach adj p.1 q.1)
    have hold := h.wsrt
    rw [hw, List.pairwise_append] at hold
    rw [List.pairwise_append]
    refine ⟨hold.1, by simp, fun a ha b hb => ?_⟩
    simp at hb; subst hb
    exact hold.2.2 a ha (u, e) (by simp)
  · intro x hx hno
    show upd s.pe u (e + 1) x = (adj x).length
    have hxu : x ≠ u := fun e' => hno (e + 1) (by rw [e']; show (u, e + 1) ∈ w0 ++ [(u, e + 1)]; simp)
    rw [upd_other _ _ hxu]
    refine h.pfull x hx (fun e' he' => ?_)
    obtain ⟨e'', h2⟩ := wo he'
    exact hno e'' h2
  · intro x hx y hy
    show s.ord y ≠ -1
    replace hy : y ∈ (adj x).take (upd s.pe u (e + 1) x) := hy
    by_cases hxu : x = u
    · subst hxu
      rw [upd_same] at hy
      rcases take_succ_mem he hy with hy | hy
      · exact h.seen x hx y (by rw [hup]; exact hy)
      · rw [hv'] at hy; rw [hy]; exact ho
    · rw [upd_other _ _ hxu] at hy
      exact h.seen x hx y hy
  · intro x e' hx y hy hle
    obtain ⟨e'', hx'⟩ := ow hx
    exact h.dwn x e'' hx' y hy hle
  · intro y hy
    obtain ⟨x, e', hx, hle, hr⟩ := h.up y hy
    obtain ⟨e'', hx'⟩ := wo hx
    exact ⟨x, e'', hx', hle, hr⟩
  · intro x e' hx
    show upd s.low u l x ≤ s.ord x
    rcases wm hx with ⟨rfl, _⟩ | ⟨hh, h1, _⟩
    · rw [upd_same]
      have := h.lowle x e huw; omega
    · rw [upd_other _ _ h1]
      exact h.lowle x e' (by rw [hw]; exact List.mem_append_left _ hh)
  · intro x e' hx
    rcases wm hx with ⟨rfl, _⟩ | ⟨hh, h1, _⟩
    · rcases hat with hat | ⟨hat, hc⟩
      · obtain ⟨y, hy, h2, h3⟩ := h.lowat x e huw
        exact ⟨y, hy, by show s.ord y = upd s.low x l x; rw [upd_same, hat]; exact h2, h3⟩
      · exact ⟨v, (h.mem v hvn).2 ⟨ho, hc⟩, by show s.ord v = upd s.low x l x; rw [upd_same, hat], Reach.edge hvm⟩
    · obtain ⟨y, hy, h2, h3⟩ := h.lowat x e' (by rw [hw]; exact List.mem_append_left _ hh)
      exact ⟨y, hy, by show s.ord y = upd s.low u l x; rw [upd_other _ _ h1]; exact h2, h3⟩
  · intro x e' hx y hy hle hseg z hz hzs
    replace hle : s.ord x ≤ s.ord y := hle
    replace hz : z ∈ (adj y).take (upd s.pe u (e + 1) y) := hz
    replace hzs : z ∈ s.stk := hzs
    show upd s.low u l x ≤ s.ord z
    have hseg' : ∀ v' e3, (v', e3) ∈ s.wlk → s.ord x < s.ord v' → s.ord y < s.ord v' := fun v' e3 h3 hlt => by
      obtain ⟨e4, h4⟩ := wo h3
      exact hseg v' e4 h4 hlt
    rcases wm hx with ⟨rfl, _⟩ | ⟨hh, h1, h2⟩
    · rw [upd_same]
      by_cases hyx : y = x
      · subst hyx
        rw [upd_same] at hz
        rcases take_succ_mem he hz with hz | hz
        · have := h.lowlb y e huw y hy (Int.le_refl _) hseg' z (by rw [hup]; exact hz) hzs
          omega
        · rw [hv'] at hz; subst hz
          exact hl' ((h.mem z hvn).1 hzs).2
      · rw [upd_other _ _ hyx] at hz
        have := h.lowlb x e huw y hy hle hseg' z hz hzs
        omega
    · have hyu : y ≠ u := fun e5 => by
        have := hseg' u e huw h2
        rw [e5] at this; omega
      rw [upd_other _ _ h1]
      rw [upd_other _ _ hyu] at hz
      exact h.lowlb x e' (by rw [hw]; exact List.mem_append_left _ hh) y hy hle hseg' z hz hzs

/-- The last frame is left and folded into the one below it. -/
def St.fold (s : St) (w1 : List (Nat × Nat)) (u e' v : Nat) : St :=
  { s with low := upd s.low u (min (s.low u) (s.low v)), wlk := w1 ++ [(u, e')] }

theorem TI.fold (h : TI adj n s) {w1 : List (Nat × Nat)} {u e' v : Nat} (hw : s.wlk = w1 ++ [(u, e')] ++ [(v, (adj v).length)]) (hne : s.low v ≠ s.ord v) :
    TI adj n (s.fold w1 u e' v) := by
  have hvw : (v, (adj v).length) ∈ s.wlk := by rw [hw]; simp
  have huw : (u, e') ∈ s.wlk := by rw [hw]; simp
  obtain ⟨hvs, _, hvp⟩ := h.wmem _ _ hvw
  obtain ⟨hus, _, _⟩ := h.wmem _ _ huw
  have hlt : s.low v < s.ord v := by have := h.lowle _ _ hvw; omega
  have huv : s.ord u < s.ord v ∧ Reach adj u v := h.top hw u e' (by simp)
  have wo : ∀ {x e}, (x, e) ∈ w1 ++ [(u, e')] → (x, e) ∈ s.wlk ∧ s.ord x < s.ord v := by
    intro x e hx
    exact ⟨by rw [hw]; exact List.mem_append_left _ hx, (h.top hw x e hx).1⟩
  have ow : ∀ {x e}, (x, e) ∈ s.wlk → x ≠ v → (x, e) ∈ w1 ++ [(u, e')] := by
    intro x e hx hne
    rw [hw] at hx
    rcases List.mem_append.1 hx with hx | hx
    · exact hx
    · simp at hx; exact absurd hx.1 hne
  -- all frames below u are below it
  have hsr : ∀ {x e}, (x, e) ∈ w1 ++ [(u, e')] → x ≠ u → s.ord x < s.ord u := by
    intro x e hx hne
    have := h.wsrt
    rw [hw, List.pairwise_append, List.pairwise_append] at this
    rcases List.mem_append.1 hx with hx | hx
    · exact (this.1.2.2 (x, e) hx (u, e') (by simp)).1
    · simp at hx; exact absurd hx.1 hne
  refine ⟨h.sn, h.ordR, h.compR, h.mem, h.done, h.srt, ?_, ?_, ?_, h.seen, h.clo, ?_, ?_, ?_, ?_, ?_, h.scc, h.cnt, h.fndle⟩
  · intro x e hx
    exact h.wmem x e (wo hx).1
  · have := h.wsrt
    rw [hw, List.pairwise_append] at this
    exact this.1
  · intro x hx hno
    by_cases hxv : x = v
    · rw [hxv]; exact hvp
    · exact h.pfull x hx (fun e he => hno e (ow he hxv))
  · intro x e hx y hy hle
    exact h.dwn x e (wo hx).1 y hy hle
  · intro y hy
    obtain ⟨x, e, hx, hle, hr⟩ := h.up y hy
    by_cases hxv : x = v
    · subst hxv
      obtain ⟨z, hz, h1, h2⟩ := h.lowat x _ hvw
      obtain ⟨x', e2, hx', hle', hr'⟩ := h.up z hz
      have hne' : x' ≠ x := fun e => by rw [e] at hle'; omega
      refine ⟨x', e2, ow hx' hne', ?_, (hr.trans h2).trans hr'⟩
      show s.ord x' ≤ s.ord y
      omega
    · exact ⟨x, e, ow hx hxv, hle, hr⟩
  · intro x e hx
    show upd s.low u (min (s.low u) (s.low v)) x ≤ s.ord x
    by_cases hxu : x = u
    · rw [hxu, upd_same]
      have := h.lowle u e' huw; omega
    · rw [upd_other _ _ hxu]; exact h.lowle x e (wo hx).1
  · intro x e hx
    by_cases hxu : x = u
    · subst hxu
      by_cases hmin : s.low x ≤ s.low v
      · obtain ⟨y, hy, h2, h3⟩ := h.lowat x e' huw
        exact ⟨y, hy, by show s.ord y = upd s.low x (min (s.low x) (s.low v)) x; rw [upd_same, Int.min_eq_left hmin]; exact h2, h3⟩
      · obtain ⟨y, hy, h2, h3⟩ := h.lowat v _ hvw
        exact ⟨y, hy, by show s.ord y = upd s.low x (min (s.low x) (s.low v)) x; rw [upd_same, Int.min_eq_right (by omega)]; exact h2, huv.2.trans h3⟩
    · obtain ⟨y, hy, h2, h3⟩ := h.lowat x e (wo hx).1
      exact ⟨y, hy, by show s.ord y = upd s.low u (min (s.low u) (s.low v)) x; rw [upd_other _ _ hxu]; exact h2, h3⟩
  · intro x e hx y hy hle hseg z hz hzs
    replace hle : s.ord x ≤ s.ord y := hle
    replace hzs : z ∈ s.stk := hzs
    show upd s.low u (min (s.low u) (s.low v)) x ≤ s.ord z
    by_cases hxu : x = u
    · subst hxu
      rw [upd_same]
      by_cases hyv : s.ord y < s.ord v
      · have := h.lowlb x e' huw y hy hle (fun v' e3 h3 hlt' => by
          by_cases e4 : v' = v
          · rw [e4]; exact hyv
          · have h5 := ow h3 e4
            by_cases e6 : v' = x
            · rw [e6] at hlt'; omega
            · have := hsr h5 e6; omega) z hz hzs
        omega
      · have := h.lowlb v _ hvw y hy (by omega) (fun v' e3 h3 hlt' => by
          have := (h.toTop hw v' e3 h3).1; omega) z hz hzs
        omega
    · have hxo := hsr hx hxu
      have hyu : s.ord y < s.ord u := hseg u e' (by show (u, e') ∈ w1 ++ [(u, e')]; simp) hxo
      rw [upd_other _ _ hxu]
      refine h.lowlb x e (wo hx).1 y hy hle (fun v' e3 h3 hlt' => ?_) z hz hzs
      by_cases e4 : v' = v
      · rw [e4]; omega
      · exact hseg v' e3 (ow h3 e4) hlt'

/-- Where the low is not the place there is a frame below. -/
theorem TI.below (h : TI adj n s) {w0 : List (Nat × Nat)} {v e : Nat} (hw : s.wlk = w0 ++ [(v, e)]) (hne : s.low v ≠ s.ord v) : w0 ≠ [] := by
  intro h0
  have hvw : (v, e) ∈ s.wlk := by rw [hw]; simp
  have hle := h.lowle _ _ hvw
  obtain ⟨y, hy, h1, _⟩ := h.lowat _ _ hvw
  obtain ⟨x, e', hx, h2, _⟩ := h.up y hy
  rw [hw, h0] at hx
  simp at hx
  rw [hx.1] at h2; omega

/-- A component is settled: what stands above v on the stack, v with it. -/
def St.settle (s : St) (w0 : List (Nat × Nat)) (s0 p : List Nat) : St :=
  { s with comp := fun x => if x ∈ p then s.fnd else s.comp x, stk := s0, wlk := w0, fnd := s.fnd + 1 }

theorem TI.settle (h : TI adj n s) (hA : ∀ u, u < n → ∀ x, x ∈ adj u → x < n) {w0 : List (Nat × Nat)} {v : Nat} {s0 s1 : List Nat} (hw : s.wlk = w0 ++ [(v, (adj v).length)]) (heq : s.low v = s.ord v)
    (hs : s.stk = s0 ++ v :: s1) : TI adj n (s.settle w0 s0 (v :: s1)) := by
  have hvw : (v, (adj v).length) ∈ s.wlk := by rw [hw]; simp
  obtain ⟨hvs, _, hvp⟩ := h.wmem _ _ hvw
  have hsr := h.srt
  rw [hs, List.pairwise_append, List.pairwise_cons] at hsr
  -- above and below
  have lo : ∀ {x}, x ∈ s0 → x ∈ s.stk ∧ s.ord x < s.ord v := fun {x} hx => ⟨by rw [hs]; simp [hx], hsr.2.2 x hx v (by simp)⟩
  have hi : ∀ {x}, x ∈ v :: s1 → x ∈ s.stk ∧ s.ord v ≤ s.ord x := by
    intro x hx
    refine ⟨by rw [hs]; exact List.mem_append_right _ hx, ?_⟩
    rcases List.mem_cons.1 hx with rfl | hx
    · exact Int.le_refl _
    · have := hsr.2.1.1 x hx; omega
  have ofLo : ∀ {x}, x ∈ s.stk → s.ord x < s.ord v → x ∈ s0 := by
    intro x hx hlt
    rw [hs] at hx
    rcases List.mem_append.1 hx with hx | hx
    · exact hx
    · have := (hi hx).2; omega
  have ofHi : ∀ {x}, x ∈ s.stk → s.ord v ≤ s.ord x → x ∈ v :: s1 := by
    intro x hx hle
    rw [hs] at hx
    rcases List.mem_append.1 hx with hx | hx
    · have := (lo hx).2; omega
    · exact hx
  have wo : ∀ {x e}, (x, e) ∈ w0 → (x, e) ∈ s.wlk ∧ s.ord x < s.ord v := by
    intro x e hx
    exact ⟨by rw [hw]; exact List.mem_append_left _ hx, (h.top hw x e hx).1⟩
  have ow : ∀ {x e}, (x, e) ∈ s.wlk → x ≠ v → (x, e) ∈ w0 := by
    intro x e hx hne
    rw [hw] at hx
    rcases List.mem_append.1 hx with hx | hx
    · exact hx
    · simp at hx; exact absurd hx.1 hne
  -- all edges of a vertex above are passed
  have full : ∀ {x}, x ∈ v :: s1 → s.pe x = (adj x).length := by
    intro x hx
    by_cases e : x = v
    · rw [e]; exact hvp
    · refine h.pfull x (hi hx).1 (fun e' he' => ?_)
      have h1 := (h.toTop hw x e' he').1
      have h2 := (hi hx).2
      exact e (h.inj (hi hx).1 hvs (by omega))
  have edges : ∀ {x y}, x ∈ v :: s1 → y ∈ adj x → y ∈ s.stk → y ∈ v :: s1 := by
    intro x y hx hy hys
    have := h.lowlb v _ hvw x (hi hx).1 (hi hx).2 (fun v' e3 h3 hlt => by have := (h.toTop hw v' e3 h3).1; omega) y (by rw [full hx, List.take_length]; exact hy) hys
    exact ofHi hys (by omega)
  have toV : ∀ {x}, x ∈ v :: s1 → Reach adj x v ∧ Reach adj v x := by
    intro x hx
    obtain ⟨x', e', hx', _, hr⟩ := h.up x (hi hx).1
    exact ⟨hr.trans (h.toTop hw x' e' hx').2, h.dwn v _ hvw x (hi hx).1 (hi hx).2⟩
  have hc1 : ∀ {x}, x ∈ v :: s1 → s.comp x = -1 ∧ x < n := fun {x} hx => ⟨((h.mem x (h.sn x (hi hx).1)).1 (hi hx).1).2, h.sn x (hi hx).1⟩
  have cY : ∀ {x}, x ∈ v :: s1 → (if x ∈ v :: s1 then (s.fnd : Int) else s.comp x) = s.fnd := fun hx => if_pos hx
  have cN : ∀ {x}, x ∉ v :: s1 → (if x ∈ v :: s1 then (s.fnd : Int) else s.comp x) = s.comp x := fun hx => if_neg hx
  have cO : ∀ {x}, s.comp x ≠ -1 → x ∉ v :: s1 := fun hx hm => hx (hc1 hm).1
  refine ⟨?_, h.ordR, ?_, ?_, ?_, ?_, ?_, ?_, ?_, ?_, ?_, ?_, ?_, ?_, ?_, ?_, ?_, h.cnt, ?_⟩
  · intro x hx; exact h.sn x (lo hx).1
  · intro x hx
    show (if x ∈ v :: s1 then (s.fnd : Int) else s.comp x) = -1 ∨ (0 ≤ (if x ∈ v :: s1 then (s.fnd : Int) else s.comp x) ∧ (if x ∈ v :: s1 then (s.fnd : Int) else s.comp x) < ((s.fnd + 1 : Nat) : Int))
    by_cases hm : x ∈ v :: s1
    · rw [cY hm]; right; omega
    · rw [cN hm]
      rcases h.compR x hx with h1 | h1
      · exact Or.inl h1
      · right; omega
  · intro x hx
    show x ∈ s0 ↔ s.ord x ≠ -1 ∧ (if x ∈ v :: s1 then (s.fnd : Int) else s.comp x) = -1
    by_cases hm : x ∈ v :: s1
    · rw [cY hm]
      constructor
      · intro h0; have := (lo h0).2; have := (hi hm).2; omega
      · rintro ⟨_, h1⟩; omega
    · rw [cN hm, ← h.mem x hx]
      constructor
      · intro h0; exact (lo h0).1
      · intro h0
        refine ofLo h0 ?_
        rcases Int.lt_or_le (s.ord x) (s.ord v) with h1 | h1
        · exact h1
        · exact absurd (ofHi h0 h1) hm
  · intro x hx hc
    replace hc : (if x ∈ v :: s1 then (s.fnd : Int) else s.comp x) ≠ -1 := hc
    show s.ord x ≠ -1
    by_cases hm : x ∈ v :: s1
    · exact ((h.mem x hx).1 (hi hm).1).1
    · rw [cN hm] at hc; exact h.done x hx hc
  · exact hsr.1
  · intro x e hx
    obtain ⟨h1, h2⟩ := wo hx
    obtain ⟨h3, h4, h5⟩ := h.wmem x e h1
    exact ⟨ofLo h3 h2, h4, h5⟩
  · have := h.wsrt
    rw [hw, List.pairwise_append] at this
    exact this.1
  · intro x hx hno
    refine h.pfull x (lo hx).1 (fun e he => ?_)
    have hxv : x ≠ v := fun e' => by have := (lo hx).2; rw [e'] at this; omega
    exact hno e (ow he hxv)
  · intro x hx
    exact h.seen x (lo hx).1
  · intro x hx hc y hy
    replace hc : (if x ∈ v :: s1 then (s.fnd : Int) else s.comp x) ≠ -1 := hc
    show (if y ∈ v :: s1 then (s.fnd : Int) else s.comp y) ≠ -1
    have hyn := hA x hx y hy
    by_cases hym : y ∈ v :: s1
    · rw [cY hym]; omega
    · rw [cN hym]
      by_cases hm : x ∈ v :: s1
      · intro hyc
        have hyo := h.seen x (hi hm).1 y (by rw [full hm, List.take_length]; exact hy)
        exact hym (edges hm hy ((h.mem y hyn).2 ⟨hyo, hyc⟩))
      · rw [cN hm] at hc
        exact h.clo x hx hc y hy
  · intro x e hx y hy hle
    exact h.dwn x e (wo hx).1 y (lo hy).1 hle
  · intro y hy
    obtain ⟨x, e, hx, hle, hr⟩ := h.up y (lo hy).1
    have hxv : x ≠ v := fun e' => by have := (lo hy).2; rw [e'] at hle; omega
    exact ⟨x, e, ow hx hxv, hle, hr⟩
  · intro x e hx
    exact h.lowle x e (wo hx).1
  · intro x e hx
    obtain ⟨y, hy, h1, h2⟩ := h.lowat x e (wo hx).1
    have := h.lowle x e (wo hx).1
    have := (wo hx).2
    exact ⟨y, ofLo hy (by omega), h1, h2⟩
  · intro x e hx y hy hle hseg z hz hzs
    refine h.lowlb x e (wo hx).1 y (lo hy).1 hle (fun v' e3 h3 hlt' => ?_) z hz (lo hzs).1
    by_cases e4 : v' = v
    · rw [e4]; exact (lo hy).2
    · exact hseg v' e3 (ow h3 e4) hlt'
  · intro x y hx hy hcx hcy
    replace hcx : (if x ∈ v :: s1 then (s.fnd : Int) else s.comp x) ≠ -1 := hcx
    replace hcy : (if y ∈ v :: s1 then (s.fnd : Int) else s.comp y) ≠ -1 := hcy
    show (if x ∈ v :: s1 then (s.fnd : Int) else s.comp x) = (if y ∈ v :: s1 then (s.fnd : Int) else s.comp y) ↔ _
    by_cases hxm : x ∈ v :: s1
    · by_cases hym : y ∈ v :: s1
      · rw [cY hxm, cY hym]
        exact ⟨fun _ => ⟨(toV hxm).1.trans (toV hym).2, (toV hym).1.trans (toV hxm).2⟩, fun _ => rfl⟩
      · rw [cN hym] at hcy
        rw [cY hxm, cN hym]
        constructor
        · intro e
          rcases h.compR y hy with h1 | h1
          · exact absurd h1 hcy
          · omega
        · rintro ⟨_, h2⟩
          exact absurd (hc1 hxm).1 (h.closed hA h2 hy hcy)
    · rw [cN hxm] at hcx
      by_cases hym : y ∈ v :: s1
      · rw [cN hxm, cY hym]
        constructor
        · intro e
          rcases h.compR x hx with h1 | h1
          · exact absurd h1 hcx
          · omega
        · rintro ⟨h1, _⟩
          exact absurd (hc1 hym).1 (h.closed hA h1 hx hcx)
      · rw [cN hym] at hcy
        rw [cN hxm, cN hym]
        exact h.scc x y hx hy hcx hcy
  · have := h.fndle
    rw [hs] at this
    simp at this
    show s.fnd + 1 + s0.length ≤ s.vis
    omega
end

end Go.Proofs.Ybulkawqg.Plain
