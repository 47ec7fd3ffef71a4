/-
  Plain law, no Go in sight: a vertex is visited; an edge is followed.
-/
import Derived.Test.YbulkawqgTarjan
namespace Go.Proofs.Ybulkawqg.Plain

section
variable {adj : Nat → List Nat} {n : Nat} {s : St}

/-- What a visit of v makes of the state, the frames below it being w. -/
def St.visit (s : St) (v : Nat) (w : List (Nat × Nat)) (pe : Nat → Nat) : St :=
  { s with ord := upd s.ord v s.vis, low := upd s.low v s.vis, stk := s.stk ++ [v], wlk := w ++ [(v, 0)], vis := s.vis + 1, pe := upd pe v 0 }

theorem unv_visit {v : Nat} (hv : v < n) (ho : s.ord v = -1) (w : List (Nat × Nat)) (pe : Nat → Nat) : (s.visit v w pe).unv n + 1 = s.unv n := by
  have := sumTo_turn (f := fun u => if (s.visit v w pe).ord u = -1 then 1 else 0) (g := fun u => if s.ord u = -1 then 1 else 0) (v := v) n hv (fun i _ hne => by
    show (if upd s.ord v s.vis i = -1 then 1 else 0) = _
    rw [upd_other _ _ hne])
  have e : (s.visit v w pe).ord v = s.vis := upd_same _ _ _
  simp only [e, ho, if_true] at this
  rw [if_neg (by omega)] at this
  unfold St.unv
  omega

theorem take_succ_mem {l : List Nat} {e x : Nat} (he : e < l.length) (h : x ∈ l.take (e + 1)) : x ∈ l.take e ∨ x = l[e] := by
  rw [List.take_succ_eq_append_getElem he] at h
  rcases List.mem_append.1 h with h | h
  · exact Or.inl h
  · right; simpa using h

theorem TI.visit (h : TI adj n s) (hA : ∀ u, u < n → ∀ x, x ∈ adj u → x < n) {w0 : List (Nat × Nat)} {u e : Nat} (hw : s.wlk = w0 ++ [(u, e)]) (he : e < (adj u).length)
    (ho : s.ord (adj u)[e] = -1) : TI adj n (s.visit (adj u)[e] (w0 ++ [(u, e + 1)]) (upd s.pe u (e + 1))) := by
  have huw : (u, e) ∈ s.wlk := by rw [hw]; simp
  obtain ⟨hus, hue, hup⟩ := h.wmem u e huw
  have hun := h.sn u hus
  have hvm : (adj u)[e] ∈ adj u := List.getElem_mem he
  generalize hv' : (adj u)[e] = v at *
  have hvn : v < n := hA u hun v hvm
  have hvc : s.comp v = -1 := by
    rcases h.compR v hvn with hc | hc
    · exact hc
    · exact absurd ho (h.done v hvn (by omega))
  have hvs : v ∉ s.stk := fun hm => ((h.mem v hvn).1 hm).1 ho
  have ne : ∀ {x}, x ∈ s.stk → x ≠ v := fun hx e => hvs (e ▸ hx)
  have od : ∀ {x}, x ≠ v → upd s.ord v (s.vis : Int) x = s.ord x := fun hx => upd_other _ _ hx
  have ov : upd s.ord v (s.vis : Int) v = s.vis := upd_same _ _ _
  have lo : ∀ {x}, x ≠ v → upd s.low v (s.vis : Int) x = s.low x := fun hx => upd_other _ _ hx
  have lv : upd s.low v (s.vis : Int) v = s.vis := upd_same _ _ _
  have huv : u ≠ v := ne hus
  -- the frames: the vertices are the old ones and v
  have wm : ∀ {x e'}, (x, e') ∈ w0 ++ [(u, e + 1)] ++ [(v, 0)] → (x = v ∧ e' = 0) ∨ (x = u ∧ e' = e + 1) ∨ ((x, e') ∈ w0 ∧ x ≠ u ∧ x ≠ v ∧ x ∈ s.stk) := by
    intro x e' hx
    rcases List.mem_append.1 hx with hx | hx
    · rcases List.mem_append.1 hx with hx | hx
      · right; right
        have h1 := (h.top hw x e' hx).1
        have h2 := (h.wmem x e' (by rw [hw]; exact List.mem_append_left _ hx)).1
        exact ⟨hx, fun e => by rw [e] at h1; omega, ne h2, h2⟩
      · simp at hx; right; left; exact hx
    · simp at hx; left; exact hx
  have wo : ∀ {x e'}, (x, e') ∈ s.wlk → ∃ e'', (x, e'') ∈ w0 ++ [(u, e + 1)] ++ [(v, 0)] := by
    intro x e' hx
    rw [hw] at hx
    rcases List.mem_append.1 hx with hx | hx
    · exact ⟨e', by simp [hx]⟩
    · simp at hx; obtain ⟨rfl, _⟩ := hx
      exact ⟨e + 1, by simp⟩
  have ow : ∀ {x e'}, (x, e') ∈ w0 ++ [(u, e + 1)] ++ [(v, 0)] → x ≠ v → ∃ e'', (x, e'') ∈ s.wlk := by
    intro x e' hx hne
    rcases wm hx with ⟨hh, _⟩ | ⟨rfl, _⟩ | ⟨hh, _⟩
    · exact absurd hh hne
    · exact ⟨e, huw⟩
    · exact ⟨e', by rw [hw]; exact List.mem_append_left _ hh⟩
  have ms : ∀ {x}, x ∈ s.stk ++ [v] → x ∈ s.stk ∨ x = v := by
    intro x hx
    rcases List.mem_append.1 hx with hx | hx
    · exact Or.inl hx
    · right; simpa using hx
  refine ⟨?_, ?_, h.compR, ?_, ?_, ?_, ?_, ?_, ?_, ?_, h.clo, ?_, ?_, ?_, ?_, ?_, h.scc, ?_, ?_⟩
  · intro x hx
    rcases ms hx with hx | rfl
    · exact h.sn x hx
    · exact hvn
  · intro x hx
    show upd s.ord v (s.vis : Int) x = -1 ∨ (0 ≤ upd s.ord v (s.vis : Int) x ∧ upd s.ord v (s.vis : Int) x < ((s.vis + 1 : Nat) : Int))
    by_cases e : x = v
    · rw [e, ov]; right; omega
    · rw [od e]
      rcases h.ordR x hx with h1 | h1
      · exact Or.inl h1
      · right; omega
  · intro x hx
    show x ∈ s.stk ++ [v] ↔ upd s.ord v (s.vis : Int) x ≠ -1 ∧ s.comp x = -1
    by_cases e : x = v
    · rw [e, ov]
      exact ⟨fun _ => ⟨by omega, hvc⟩, fun _ => by simp⟩
    · rw [od e, ← h.mem x hx]
      simp [e]
  · intro x hx hc
    show upd s.ord v (s.vis : Int) x ≠ -1
    by_cases e : x = v
    · rw [e, ov]; omega
    · rw [od e]; exact h.done x hx hc
  · show (s.stk ++ [v]).Pairwise (fun a b => upd s.ord v (s.vis : Int) a < upd s.ord v (s.vis : Int) b)
    rw [List.pairwise_append]
    refine ⟨List.Pairwise.imp_of_mem (fun {a b} ha hb hab => ?_) h.srt, by simp, fun a ha b hb => ?_⟩
    · rw [od (ne ha), od (ne hb)]; exact hab
    · simp at hb; subst hb
      rw [od (ne ha), ov]; exact (h.stkord ha).2
  · intro x e' hx
    show x ∈ s.stk ++ [v] ∧ e' ≤ (adj x).length ∧ upd (upd s.pe u (e + 1)) v 0 x = e'
    rcases wm hx with ⟨rfl, rfl⟩ | ⟨rfl, rfl⟩ | ⟨hh, h1, h2, h3⟩
    · exact ⟨by simp, by omega, upd_same _ _ _⟩
    · exact ⟨by simp [hus], by omega, by rw [upd_other _ _ huv, upd_same]⟩
    · obtain ⟨_, h5, h6⟩ := h.wmem x e' (by rw [hw]; exact List.mem_append_left _ hh)
      exact ⟨by simp [h3], h5, by rw [upd_other _ _ h2, upd_other _ _ h1]; exact h6⟩
  · show (w0 ++ [(u, e + 1)] ++ [(v, 0)]).Pairwise (fun (p q : Nat × Nat) => upd s.ord v (s.vis : Int) p.1 < upd s.ord v (s.vis : Int) q.1 ∧ Reach adj p.1 q.1)
    have hold := h.wsrt
    rw [hw, List.pairwise_append] at hold
    have inst : ∀ {p : Nat × Nat}, p ∈ w0 → p.1 ≠ v := fun {p} hp => ne (h.wmem p.1 p.2 (by rw [hw]; exact List.mem_append_left _ hp)).1
    rw [List.pairwise_append, List.pairwise_append]
    refine ⟨⟨List.Pairwise.imp_of_mem (fun {a b} ha hb hab => ?_) hold.1, by simp, fun a ha b hb => ?_⟩, by simp, fun a ha b hb => ?_⟩
    · rw [od (inst ha), od (inst hb)]; exact hab
    · simp at hb; subst hb
      have := hold.2.2 a ha (u, e) (by simp)
      show upd s.ord v (s.vis : Int) a.1 < upd s.ord v (s.vis : Int) u ∧ Reach adj a.1 u
      rw [od (inst ha), od huv]; exact this
    · simp at hb; subst hb
      show upd s.ord v (s.vis : Int) a.1 < upd s.ord v (s.vis : Int) v ∧ Reach adj a.1 v
      rw [ov]
      rcases List.mem_append.1 ha with ha | ha
      · have h1 := h.wmem a.1 a.2 (by rw [hw]; exact List.mem_append_left _ ha)
        rw [od (inst ha)]
        exact ⟨(h.stkord h1.1).2, (h.top hw a.1 a.2 ha).2.trans (Reach.edge hvm)⟩
      · simp at ha; subst ha
        show upd s.ord v (s.vis : Int) u < _ ∧ Reach adj u v
        rw [od huv]
        exact ⟨(h.stkord hus).2, Reach.edge hvm⟩
  · intro x hx hno
    show upd (upd s.pe u (e + 1)) v 0 x = (adj x).length
    have hxv : x ≠ v := fun e => hno 0 (by rw [e]; show (v, 0) ∈ _ ++ [(v, 0)]; simp)
    have hxu : x ≠ u := fun e' => hno (e + 1) (by rw [e']; show (u, e + 1) ∈ w0 ++ [(u, e + 1)] ++ [(v, 0)]; simp)
    have hxs : x ∈ s.stk := (ms hx).resolve_right hxv
    rw [upd_other _ _ hxv, upd_other _ _ hxu]
    refine h.pfull x hxs (fun e' he' => ?_)
    obtain ⟨e'', h2⟩ := wo he'
    exact hno e'' h2
  · intro x hx y hy
    show upd s.ord v (s.vis : Int) y ≠ -1
    by_cases hyv : y = v
    · rw [hyv, ov]; omega
    rw [od hyv]
    replace hy : y ∈ (adj x).take (upd (upd s.pe u (e + 1)) v 0 x) := hy
    rcases ms hx with hx1 | rfl
    · rw [upd_other _ _ (ne hx1)] at hy
      by_cases hxu : x = u
      · subst hxu
        rw [upd_same] at hy
        rcases take_succ_mem he hy with hy | hy
        · exact h.seen x hx1 y (by rw [hup]; exact hy)
        · rw [hv'] at hy; exact absurd hy hyv
      · rw [upd_other _ _ hxu] at hy
        exact h.seen x hx1 y hy
    · rw [upd_same] at hy; simp at hy
  · intro x e' hx y hy hle
    replace hle : upd s.ord v (s.vis : Int) x ≤ upd s.ord v (s.vis : Int) y := hle
    by_cases hxv : x = v
    · subst hxv
      rcases ms hy with hy | rfl
      · rw [ov, od (ne hy)] at hle
        have := (h.stkord hy).2; omega
      · exact Reach.refl _
    · obtain ⟨e'', hx'⟩ := ow hx hxv
      rcases ms hy with hy | rfl
      · rw [od hxv, od (ne hy)] at hle
        exact h.dwn x e'' hx' y hy hle
      · exact (h.toTop hw x e'' hx').2.trans (Reach.edge hvm)
  · intro y hy
    rcases ms hy with hy | rfl
    · obtain ⟨x, e', hx, hle, hr⟩ := h.up y hy
      obtain ⟨e'', hx'⟩ := wo hx
      exact ⟨x, e'', hx', by show upd s.ord v (s.vis : Int) x ≤ upd s.ord v (s.vis : Int) y; rw [od (ne (h.wmem x e' hx).1), od (ne hy)]; exact hle, hr⟩
    · exact ⟨y, 0, by show (y, 0) ∈ _ ++ [(y, 0)]; simp, Int.le_refl _, Reach.refl _⟩
  · intro x e' hx
    show upd s.low v (s.vis : Int) x ≤ upd s.ord v (s.vis : Int) x
    by_cases hxv : x = v
    · rw [hxv, lv, ov]; omega
    · obtain ⟨e'', hx'⟩ := ow hx hxv
      rw [lo hxv, od hxv]; exact h.lowle x e'' hx'
  · intro x e' hx
    by_cases hxv : x = v
    · exact ⟨v, by show v ∈ s.stk ++ [v]; simp, by show upd s.ord v (s.vis : Int) v = upd s.low v (s.vis : Int) x; rw [hxv, lv, ov], by rw [hxv]; exact Reach.refl _⟩
    · obtain ⟨e'', hx'⟩ := ow hx hxv
      obtain ⟨y, hy, h1, h2⟩ := h.lowat x e'' hx'
      exact ⟨y, by show y ∈ s.stk ++ [v]; simp [hy], by show upd s.ord v (s.vis : Int) y = upd s.low v (s.vis : Int) x; rw [od (ne hy), lo hxv]; exact h1, h2⟩
  · intro x e' hx y hy hle hseg z hz hzs
    replace hle : upd s.ord v (s.vis : Int) x ≤ upd s.ord v (s.vis : Int) y := hle
    replace hz : z ∈ (adj y).take (upd (upd s.pe u (e + 1)) v 0 y) := hz
    show upd s.low v (s.vis : Int) x ≤ upd s.ord v (s.vis : Int) z
    by_cases hxv : x = v
    · rcases ms hy with hy' | rfl
      · rw [hxv, ov, od (ne hy')] at hle
        have := (h.stkord hy').2; omega
      · rw [upd_same] at hz; simp at hz
    · obtain ⟨e'', hx'⟩ := ow hx hxv
      have hxs := (h.wmem x e'' hx').1
      have hyv : upd s.ord v (s.vis : Int) y < upd s.ord v (s.vis : Int) v := hseg v 0 (by show (v, 0) ∈ _ ++ [(v, 0)]; simp) (by show upd s.ord v (s.vis : Int) x < upd s.ord v (s.vis : Int) v; rw [ov, od hxv]; exact (h.stkord hxs).2)
      have hys : y ∈ s.stk := by
        rcases ms hy with hy' | rfl
        · exact hy'
        · omega
      rw [od hxv, od (ne hys)] at hle
      rw [lo hxv]
      have hlx := h.lowle x e'' hx'
      rcases ms hzs with hzs' | rfl
      · rw [od (ne hzs')]
        have hseg' : ∀ v' e3, (v', e3) ∈ s.wlk → s.ord x < s.ord v' → s.ord y < s.ord v' := by
          intro v' e3 h3 hlt
          obtain ⟨e4, h4⟩ := wo h3
          have h5 := (h.wmem v' e3 h3).1
          have := hseg v' e4 h4 (by show upd s.ord v (s.vis : Int) x < upd s.ord v (s.vis : Int) v'; rw [od hxv, od (ne h5)]; exact hlt)
          replace this : upd s.ord v (s.vis : Int) y < upd s.ord v (s.vis : Int) v' := this
          rw [od (ne hys), od (ne h5)] at this; exact this
        rw [upd_other _ _ (ne hys)] at hz
        by_cases hyu : y = u
        · subst hyu
          rw [upd_same] at hz
          rcases take_succ_mem he hz with hz | hz
          · exact h.lowlb x e'' hx' y hys hle hseg' z (by rw [hup]; exact hz) hzs'
          · rw [hv'] at hz; exact absurd hz (ne hzs')
        · rw [upd_other _ _ hyu] at hz
          exact h.lowlb x e'' hx' y hys hle hseg' z hz hzs'
      · rw [ov]
        have := (h.stkord hxs).2; omega
  · have := unv_visit (s := s) hvn ho (w0 ++ [(u, e + 1)]) (upd s.pe u (e + 1))
    have := h.cnt
    show s.vis + 1 + _ = n
    omega
  · have := h.fndle
    show s.fnd + (s.stk ++ [v]).length ≤ s.vis + 1
    simp; omega

/-- A root is visited. -/
theorem TI.root (h : TI adj n s) {v : Nat} (hw : s.wlk = []) (hvn : v < n) (ho : s.ord v = -1) : TI adj n (s.visit v [] s.pe) := by
  have hs := h.empty hw
  have hvc : s.comp v = -1 := by
    rcases h.compR v hvn with hc | hc
    · exact hc
    · exact absurd ho (h.done v hvn (by omega))
  have od : ∀ {x}, x ≠ v → upd s.ord v (s.vis : Int) x = s.ord x := fun hx => upd_other _ _ hx
  have ov : upd s.ord v (s.vis : Int) v = s.vis := upd_same _ _ _
  have lv : upd s.low v (s.vis : Int) v = s.vis := upd_same _ _ _
  have es : (s.visit v [] s.pe).stk = [v] := by show s.stk ++ [v] = [v]; rw [hs]; rfl
  have ew : (s.visit v [] s.pe).wlk = [(v, 0)] := rfl
  refine ⟨?_, ?_, h.compR, ?_, ?_, ?_, ?_, ?_, ?_, ?_, h.clo, ?_, ?_, ?_, ?_, ?_, h.scc, ?_, ?_⟩
  · intro x hx; rw [es] at hx; simp at hx; omega
  · intro x hx
    show upd s.ord v (s.vis : Int) x = -1 ∨ (0 ≤ upd s.ord v (s.vis : Int) x ∧ upd s.ord v (s.vis : Int) x < ((s.vis + 1 : Nat) : Int))
    by_cases e : x = v
    · rw [e, ov]; right; omega
    · rw [od e]
      rcases h.ordR x hx with h1 | h1
      · exact Or.inl h1
      · right; omega
  · intro x hx
    rw [es]
    show x ∈ [v] ↔ upd s.ord v (s.vis : Int) x ≠ -1 ∧ s.comp x = -1
    by_cases e : x = v
    · rw [e, ov]
      exact ⟨fun _ => ⟨by omega, hvc⟩, fun _ => by simp⟩
    · rw [od e, ← h.mem x hx, hs]
      simp [e]
  · intro x hx hc
    show upd s.ord v (s.vis : Int) x ≠ -1
    by_cases e : x = v
    · rw [e, ov]; omega
    · rw [od e]; exact h.done x hx hc
  · rw [es]; simp
  · intro x e' hx
    rw [ew] at hx; simp at hx
    obtain ⟨rfl, rfl⟩ := hx
    exact ⟨by rw [es]; simp, Nat.zero_le _, upd_same _ _ _⟩
  · rw [ew]; simp
  · intro x hx hno
    rw [es] at hx; simp at hx; subst hx
    exact absurd (show (x, 0) ∈ (s.visit x [] s.pe).wlk by rw [ew]; simp) (hno 0)
  · intro x hx y hy
    rw [es] at hx; simp at hx; subst hx
    replace hy : y ∈ (adj x).take (upd s.pe x 0 x) := hy
    rw [upd_same] at hy; simp at hy
  · intro x e' hx y hy _
    rw [ew] at hx; simp at hx
    rw [es] at hy; simp at hy
    rw [hx.1, hy]; exact Reach.refl _
  · intro y hy
    rw [es] at hy; simp at hy
    exact ⟨v, 0, by rw [ew]; simp, by rw [hy]; exact Int.le_refl _, by rw [hy]; exact Reach.refl _⟩
  · intro x e' hx
    rw [ew] at hx; simp at hx
    rw [hx.1]
    show upd s.low v (s.vis : Int) v ≤ upd s.ord v (s.vis : Int) v
    rw [lv, ov]; omega
  · intro x e' hx
    rw [ew] at hx; simp at hx
    rw [hx.1]
    exact ⟨v, by rw [es]; simp, by show upd s.ord v (s.vis : Int) v = upd s.low v (s.vis : Int) v; rw [lv, ov], Reach.refl _⟩
  · intro x e' hx y hy _ _ z hz _
    rw [es] at hy; simp at hy; subst hy
    replace hz : z ∈ (adj y).take (upd s.pe y 0 y) := hz
    rw [upd_same] at hz; simp at hz
  · have := unv_visit (s := s) hvn ho [] s.pe
    have := h.cnt
    show s.vis + 1 + _ = n
    omega
  · have := h.fndle
    rw [es]
    show s.fnd + 1 ≤ s.vis + 1
    omega
end

end Go.Proofs.Ybulkawqg.Plain
