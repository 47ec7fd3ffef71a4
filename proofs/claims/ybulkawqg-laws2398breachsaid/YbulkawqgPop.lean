/-
  components: the loop that settles a component.
-/
import Derived.Test.YbulkawqgRounds3
namespace Go.Proofs.Ybulkawqg
open Go.RowKit
open Plain (upd St)

theorem Rep.formS {w0 w : World} {B n : Nat} {s : St} {sv wv : Value} (h : Rep w0 w B n s sv wv) {sb : List Nat} {x : Nat} (hs : s.stk = sb ++ [x]) :
    ∃ g cap, sv = .slice (some ⟨g, 0, none⟩) (sb.length + 1) cap := by
  have := h.stk.form (by rw [hs]; simp)
  obtain ⟨g, cap, e, _⟩ := this
  exact ⟨g, cap, by rw [e, hs]; simp⟩

set_option maxRecDepth 100000 in
set_option maxHeartbeats 1600000 in
theorem pop_round (gb B n v : Nat) (k F : Int) (t : Array Value) (w0 w : World) (s : St) (sv wv : Value) (hs : Sl t gb B n k) (h10 : t.getD 10 undef = .int .i32 F) (h14 : t.getD 14 undef = .int .i32 (v : Int)) (hr : Rep w0 w B n s sv wv)
    (sb : List Nat) (x : Nat) (hst : s.stk = sb ++ [x]) (hxn : x < n) (hl : sb.length ≤ 12)
    (K : Act → World → Prop) (Q : Exit → Act → World → Prop)
    (hK : x ≠ v → ∀ t' w' sv', Sl t' gb B n k → t'.getD 10 undef = .int .i32 F → t'.getD 14 undef = .int .i32 (v : Int) → Rep w0 w' B n { s with stk := sb, comp := upd s.comp x F } sv' wv → K ⟨t', []⟩ w')
    (hQ : x = v → ∀ t' w' sv', Sl t' gb B n k → t'.getD 10 undef = .int .i32 F → t'.getD 14 undef = .int .i32 (v : Int) → Rep w0 w' B n { s with stk := sb, comp := upd s.comp x F } sv' wv → Q (.exit 7) ⟨t', []⟩ w') :
    Code.wp Yba.prog ((loops (Yba.f22.body.getD .skip)).getD 3 .skip) (Exit.then K Q) ⟨t, []⟩ w := by
  conv => arg 2; whnf
  rw [lit178 t hs.size]
  simp only [hs.s0, hs.s3, hs.s4, hs.s5, hs.s7, hs.s8, hs.s11, hs.s41, hs.s42, h10, h14]
  obtain ⟨g, cap, hv⟩ := hr.formS hst
  subst hv
  have c1 := cell_of_one hr.stkB
  have f1 := free_of_one hr.stkB
  have c2 := hr.topStk hst rfl
  have hcap := hr.capS
  have hr1 := hr.popStk hst rfl
  obtain ⟨c3, c4⟩ := hr1.cComp hxn
  simp only at c3
  generalize sb.length = m at *
  have hcap' : (m : Int) ≤ (cap : Int) := by simp at hcap; omega
  have hxi : (x : Int) < (n : Int) := by omega
  have HR : Hid (Rep w0 ((w.setCell ⟨B + 5, 0, none⟩ (.slice (some ⟨g, 0, none⟩) m cap)).setCell ⟨B + 4, x, none⟩ (.int .i32 F)) B n { s with stk := sb, comp := upd s.comp x F } (.slice (some ⟨g, 0, none⟩) m cap) wv) := hr1.setComp x F
  clear hr hr1
  by_cases hxv : x = v
  · have d1 : ((x : Int) == (v : Int)) = true := by simp [hxv]
    have HX : Hid (x = v) := hxv
    clear hxv
    go_wp2_with fail
    exact hQ HX.out _ _ _ ⟨rfl, rfl, rfl, rfl, rfl, rfl, rfl, rfl, rfl, rfl⟩ rfl rfl HR.out
  · have d1 : ((x : Int) == (v : Int)) = false := by simp; omega
    go_wp2_with fail
    exact hK hxv _ _ _ ⟨rfl, rfl, rfl, rfl, rfl, rfl, rfl, rfl, rfl, rfl⟩ rfl rfl HR.out

/-- The whole loop: what stands above v goes, v last; each gets the number F. -/
theorem pop_loop (gb B n v : Nat) (k F : Int) (t : Array Value) (w0 w : World) (s : St) (sv wv : Value) (hs : Sl t gb B n k) (h10 : t.getD 10 undef = .int .i32 F) (h14 : t.getD 14 undef = .int .i32 (v : Int)) (hr : Rep w0 w B n s sv wv)
    (s0 s1 : List Nat) (hst : s.stk = s0 ++ v :: s1) (hsn : ∀ x, x ∈ s.stk → x < n) (hl : s.stk.length ≤ 12) (hnd : v ∉ s1)
    (Q : Exit → Act → World → Prop)
    (hQ : ∀ t' w' sv', Sl t' gb B n k → t'.getD 10 undef = .int .i32 F → t'.getD 14 undef = .int .i32 (v : Int) → Rep w0 w' B n { s with stk := s0, comp := fun x => if x ∈ v :: s1 then F else s.comp x } sv' wv → Q (.exit 7) ⟨t', []⟩ w') :
    Code.wp Yba.prog (Code.loop ((loops (Yba.f22.body.getD .skip)).getD 3 .skip)) Q ⟨t, []⟩ w := by
  refine wp_loop_ghost (fun g a w' => ∃ q p t' sv', s1 = q ++ p ∧ g = q.length ∧ a = ⟨t', []⟩ ∧ Sl t' gb B n k ∧ t'.getD 10 undef = .int .i32 F ∧ t'.getD 14 undef = .int .i32 (v : Int) ∧
    Rep w0 w' B n { s with stk := s0 ++ v :: q, comp := fun x => if x ∈ p then F else s.comp x } sv' wv) s1.length ?_ ?_
  · refine ⟨s1, [], t, sv, by simp, rfl, rfl, hs, h10, h14, ?_⟩
    exact ⟨hr.ord, hr.ordB, hr.low, hr.lowB, hr.comp.congr (fun i _ => by simp), hr.stkB, hr.wlkB, hr.visB, by show World.ownsRow _ _ _ _ _ (s0 ++ v :: s1).length (i32s (s0 ++ v :: s1)); rw [← hst]; exact hr.stk, hr.wlk, hr.old⟩
  · rintro g a w' ⟨q, p, t', sv', e1, rfl, rfl, hs', h10', h14', hr'⟩
    have hlen : (s0 ++ v :: q).length ≤ 12 := by
      rw [hst, e1] at hl; simp at hl ⊢; omega
    rcases List.eq_nil_or_concat q with rfl | ⟨q', x, rfl⟩
    · refine pop_round gb B n v k F t' w0 w' _ sv' wv hs' h10' h14' hr' s0 v (by simp) (hsn v (by rw [hst]; simp)) (by simp at hlen ⊢; omega) _ _ (fun h => absurd rfl h) (fun _ t2 w2 sv2 hs2 h102 h142 hr2 => ?_)
      refine hQ t2 w2 sv2 hs2 h102 h142 ⟨hr2.ord, hr2.ordB, hr2.low, hr2.lowB, hr2.comp.congr (fun i _ => ?_), hr2.stkB, hr2.wlkB, hr2.visB, hr2.stk, hr2.wlk, hr2.old⟩
      simp at e1
      subst e1
      by_cases e : i = v
      · simp [upd, e]
      · simp [upd, e]
    · have hx1 : x ∈ s1 := by rw [e1]; simp
      have hxv : x ≠ v := fun e => hnd (by rw [← e]; exact hx1)
      refine pop_round gb B n v k F t' w0 w' _ sv' wv hs' h10' h14' hr' (s0 ++ v :: q') x (by simp) (hsn x (by rw [hst]; simp [hx1])) (by simp at hlen ⊢; omega) _ _ (fun _ t2 w2 sv2 hs2 h102 h142 hr2 => ?_) (fun h => absurd h hxv)
      refine ⟨q'.length, by simp, q', x :: p, t2, sv2, by rw [e1]; simp, rfl, rfl, hs2, h102, h142, ⟨hr2.ord, hr2.ordB, hr2.low, hr2.lowB, hr2.comp.congr (fun i _ => ?_), hr2.stkB, hr2.wlkB, hr2.visB, hr2.stk, hr2.wlk, hr2.old⟩⟩
      by_cases e : i = x
      · simp [upd, e]
      · simp [upd, e]
end Go.Proofs.Ybulkawqg
