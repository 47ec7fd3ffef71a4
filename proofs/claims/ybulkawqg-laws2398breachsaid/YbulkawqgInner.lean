/-
  components: the inner loop.
-/
import Derived.Test.YbulkawqgSettle
namespace Go.Proofs.Ybulkawqg
open Go.RowKit
open Plain (upd St)

theorem nil_or_snoc {α : Type} (l : List α) : l = [] ∨ ∃ m x, l = m ++ [x] := by
  rcases List.eq_nil_or_concat l with h | ⟨m, x, h⟩
  · exact Or.inl h
  · exact Or.inr ⟨m, x, by rw [h]; simp⟩

theorem inner_loop (gb B n : Nat) (k : Int) (adj : Nat → List Nat) (t : Array Value) (w0 w : World) (s : St) (sv wv : Value) (hs : Sl t gb B n k) (h10 : t.getD 10 undef = .int .i32 (s.fnd : Int)) (hr : Rep w0 w B n s sv wv)
    (ht : Plain.TI adj n s) (hadj : AdjAt w0 gb n adj) (hB : w0.heap.size = B) (hn : n ≤ 12)
    (Q : Exit → Act → World → Prop)
    (hQ : ∀ t' w' s' sv' wv', Sl t' gb B n k → t'.getD 10 undef = .int .i32 ((St.fnd s' : Nat) : Int) → Rep w0 w' B n s' sv' wv' → Plain.TI adj n s' → s'.wlk = [] → (∀ u, s.ord u ≠ -1 → s'.ord u ≠ -1) → Q (.exit 4) ⟨t', []⟩ w') :
    Code.wp Yba.prog (Code.loop ((loops (Yba.f22.body.getD .skip)).getD 2 .skip)) Q ⟨t, []⟩ w := by
  have hA : ∀ u, u < n → ∀ x, x ∈ adj u → x < n := fun u hu x hx => (hadj u hu).2.2.1 x hx
  refine wp_loop_ghost (fun g a w' => ∃ t' s' sv' wv', a = ⟨t', []⟩ ∧ Sl t' gb B n k ∧ t'.getD 10 undef = .int .i32 ((St.fnd s' : Nat) : Int) ∧ Rep w0 w' B n s' sv' wv' ∧ Plain.TI adj n s' ∧ (∀ u, s.ord u ≠ -1 → s'.ord u ≠ -1) ∧ g = s'.mu adj n) (s.mu adj n) ?_ ?_
  · exact ⟨t, s, sv, wv, rfl, hs, h10, hr, ht, fun _ h => h, rfl⟩
  clear hs h10 hr ht
  rintro g a w' ⟨t1, s1, sv1, wv1, rfl, hs, h10, hr, ht, hord, rfl⟩
  have hadj1 : AdjAt w' gb n adj := hadj.below (by rw [hB]; exact hr.old)
  have hwl := ht.walkLen
  have hvl := ht.visLen
  have hsl := ht.stkLen
  have hfl := ht.fndle
  rcases nil_or_snoc s1.wlk with hw | ⟨w1, ⟨v, e⟩, hw⟩
  · exact round_exit gb B n k t1 w0 w' s1 sv1 wv1 hs h10 hr hw _ _ (fun t2 hs2 h2 => hQ t2 w' s1 sv1 wv1 hs2 h2 hr ht hw hord)
  have hvw : (v, e) ∈ s1.wlk := by rw [hw]; simp
  obtain ⟨hvs, hel, hpe⟩ := ht.wmem v e hvw
  have hvn := ht.sn v hvs
  have hl1 : w1.length ≤ 11 := by rw [hw] at hwl; simp at hwl; omega
  by_cases he : e < (adj v).length
  · have hxn : (adj v)[e] < n := hA v hvn _ (List.getElem_mem he)
    by_cases ho : s1.ord (adj v)[e] = -1
    · refine round_visit gb B n k adj t1 w0 w' s1 sv1 wv1 hs h10 hr hadj1 w1 v e hw hvn he ho hl1 (by omega) (by omega) (upd s1.pe v (e + 1)) _ _ (fun t2 w2 sv2 wv2 hs2 h2 hr2 => ?_)
      refine ⟨_, Plain.mu_visit hxn ho hw he _, t2, s1.visit (adj v)[e] (w1 ++ [(v, e + 1)]) (upd s1.pe v (e + 1)), sv2, wv2, rfl, hs2, h2, hr2, ht.visit hA hw he ho, fun u hu => ?_, rfl⟩
      show upd s1.ord _ (s1.vis : Int) u ≠ -1
      by_cases eu : u = (adj v)[e]
      · rw [eu, Plain.upd_same]; omega
      · rw [Plain.upd_other _ _ eu]; exact hord u hu
    · by_cases hc : s1.comp (adj v)[e] = -1
      · refine round_low gb B n k adj t1 w0 w' s1 sv1 wv1 hs h10 hr hadj1 w1 v e hw hvn he ho hc hl1 _ _ (fun t2 w2 sv2 wv2 hs2 h2 hr2 => ?_)
        exact ⟨_, Plain.mu_pass hw he, t2, s1.pass w1 v e (min (s1.low v) (s1.ord (adj v)[e])), sv2, wv2, rfl, hs2, h2, hr2, ht.pass hA hw he ho (by omega) (fun _ => by omega) (by omega), hord, rfl⟩
      · refine round_skip gb B n k adj t1 w0 w' s1 sv1 wv1 hs h10 hr hadj1 w1 v e hw hvn he ho hc hl1 _ _ (fun t2 w2 sv2 wv2 hs2 h2 hr2 => ?_)
        exact ⟨_, Plain.mu_pass hw he, t2, s1.pass w1 v e (s1.low v), sv2, wv2, rfl, hs2, h2, hr2, ht.pass hA hw he ho (Int.le_refl _) (fun h => absurd h hc) (Or.inl rfl), hord, rfl⟩
  · have hee : e = (adj v).length := by omega
    subst hee
    by_cases heq : s1.low v = s1.ord v
    · obtain ⟨s0, sr, hst⟩ := List.append_of_mem hvs
      have hnd : v ∉ sr := fun hm => by
        have hp := ht.srt
        rw [hst, List.pairwise_append, List.pairwise_cons] at hp
        have := hp.2.1.1 v hm
        omega
      have ht2 := ht.settle hA hw heq hst
      rcases nil_or_snoc w1 with hw1 | ⟨w2, ⟨u, e'⟩, hw1⟩
      · subst hw1
        refine round_settle0 gb B n k adj t1 w0 w' s1 sv1 wv1 hs h10 hr hadj1 v hw hvn heq s0 sr hst ht.sn (by omega) hnd (by omega) _ _ (fun t2 w2 sv2 wv2 hs2 h2 hr2 => ?_)
        exact ⟨_, Plain.mu_settle hw, t2, s1.settle [] s0 (v :: sr), sv2, wv2, rfl, hs2, h2, hr2, ht2, hord, rfl⟩
      · subst hw1
        have huw : (u, e') ∈ s1.wlk := by rw [hw]; simp
        have hus := (ht.wmem u e' huw).1
        have hle := ht.lowle u e' huw
        have hlt := (ht.top hw u e' (by simp)).1
        refine round_settle1 gb B n k adj t1 w0 w' s1 sv1 wv1 hs h10 hr hadj1 w2 u e' v hw hvn (ht.sn u hus) heq (by omega) (by simp at hl1; omega) s0 sr hst ht.sn (by omega) hnd (by omega) _ _ (fun t2 w3 sv2 wv2 hs2 h2 hr2 => ?_)
        exact ⟨_, Plain.mu_settle hw, t2, s1.settle (w2 ++ [(u, e')]) s0 (v :: sr), sv2, wv2, rfl, hs2, h2, hr2, ht2, hord, rfl⟩
    · have hne := ht.below hw heq
      rcases nil_or_snoc w1 with hw1 | ⟨w2, ⟨u, e'⟩, hw1⟩
      · exact absurd hw1 hne
      · subst hw1
        have huw : (u, e') ∈ s1.wlk := by rw [hw]; simp
        have hus := (ht.wmem u e' huw).1
        have hlt := (ht.top hw u e' (by simp)).1
        have huv : u ≠ v := fun e => by rw [e] at hlt; omega
        refine round_fold gb B n k adj t1 w0 w' s1 sv1 wv1 hs h10 hr hadj1 w2 u e' v hw hvn (ht.sn u hus) huv heq (by simp at hl1; omega) _ _ (fun t2 w3 sv2 wv2 hs2 h2 hr2 => ?_)
        exact ⟨_, Plain.mu_fold hw, t2, s1.fold w2 u e' v, sv2, wv2, rfl, hs2, h2, hr2, ht.fold hw heq, hord, rfl⟩
end Go.Proofs.Ybulkawqg
