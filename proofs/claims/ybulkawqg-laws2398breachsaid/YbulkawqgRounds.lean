/-
  components: the rounds of the inner loop.
-/
import Derived.Test.YbulkawqgSlots
namespace Go.Proofs.Ybulkawqg
open Go.RowKit
open Plain (upd St)

set_option maxRecDepth 100000 in
set_option maxHeartbeats 1600000 in
theorem round_exit (gb B n : Nat) (k : Int) (t : Array Value) (w0 w : World) (s : St) (sv wv : Value) (hs : Sl t gb B n k) (h10 : t.getD 10 undef = .int .i32 (s.fnd : Int)) (hr : Rep w0 w B n s sv wv) (hw : s.wlk = [])
    (K : Act → World → Prop) (Q : Exit → Act → World → Prop) (hexit : ∀ t', Sl t' gb B n k → t'.getD 10 undef = .int .i32 (s.fnd : Int) → Q (.exit 4) ⟨t', []⟩ w) :
    Code.wp Yba.prog ((loops (Yba.f22.body.getD .skip)).getD 2 .skip) (Exit.then K Q) ⟨t, []⟩ w := by
  conv => arg 2; whnf
  rw [lit178 t hs.size]
  simp only [hs.s0, hs.s3, hs.s4, hs.s5, hs.s7, hs.s8, hs.s11, hs.s41, hs.s42, h10]
  have c1 := cell_of_one hr.wlkB
  obtain ⟨ao, cp, hv⟩ : ∃ ao cp, wv = .slice ao 0 cp := by
    rcases hr.wlk.2 with ⟨e, _⟩ | ⟨g, cap, cur, e, _⟩
    · exact ⟨none, 0, e⟩
    · rw [hw] at e; exact ⟨_, cap, e⟩
  subst hv
  clear hr hw
  go_wp2_with fail
  exact hexit _ ⟨rfl, rfl, rfl, rfl, rfl, rfl, rfl, rfl, rfl, rfl⟩ rfl

/-- The row of a vertex, and its e-th edge. -/
theorem AdjAt.at {w : World} {gb n v e : Nat} {adj : Nat → List Nat} (h : AdjAt w gb n adj) (hv : v < n) (he : e < (adj v).length) :
    ∃ b off cap, w.cell? ⟨gb, v, none⟩ = some (.slice (some ⟨b, off, none⟩) (adj v).length cap) ∧ w.cell? ⟨b, off + e, none⟩ = some (.int .i32 ((adj v)[e] : Int)) ∧ (adj v)[e] < n ∧ (adj v).length ≤ 1024 := by
  obtain ⟨_, h2, h3, ao, cap, h4, h5, _⟩ := h v hv
  obtain ⟨b, off, rfl, hc⟩ := h5 e (by rw [length_ints]; exact he)
  exact ⟨b, off, cap, h4, by rw [hc]; simp [ints, he], h3 _ (List.getElem_mem he), h2⟩

theorem Rep.formW {w0 w : World} {B n : Nat} {s : St} {sv wv : Value} (h : Rep w0 w B n s sv wv) {w1 : List (Nat × Nat)} {v e : Nat} (hw : s.wlk = w1 ++ [(v, e)]) :
    ∃ g cap, wv = .slice (some ⟨g, 0, none⟩) (w1.length + 1) cap := by
  have := h.wlk.form (by rw [hw]; simp)
  obtain ⟨g, cap, e, _⟩ := this
  exact ⟨g, cap, by rw [e, hw]; simp⟩

set_option maxRecDepth 100000 in
set_option maxHeartbeats 1600000 in
theorem round_visit (gb B n : Nat) (k : Int) (adj : Nat → List Nat) (t : Array Value) (w0 w : World) (s : St) (sv wv : Value) (hs : Sl t gb B n k) (h10 : t.getD 10 undef = .int .i32 (s.fnd : Int)) (hr : Rep w0 w B n s sv wv)
    (hadj : AdjAt w gb n adj) (w1 : List (Nat × Nat)) (v e : Nat) (hw : s.wlk = w1 ++ [(v, e)]) (hvn : v < n) (he : e < (adj v).length) (ho : s.ord (adj v)[e] = -1)
    (hl1 : w1.length ≤ 11) (hl2 : s.stk.length ≤ 12) (hl3 : s.vis ≤ 12) (pe : Nat → Nat)
    (K : Act → World → Prop) (Q : Exit → Act → World → Prop)
    (hK : ∀ t' w' sv' wv', Sl t' gb B n k → t'.getD 10 undef = .int .i32 (s.fnd : Int) → Rep w0 w' B n (s.visit (adj v)[e] (w1 ++ [(v, e + 1)]) pe) sv' wv' → K ⟨t', []⟩ w') :
    Code.wp Yba.prog ((loops (Yba.f22.body.getD .skip)).getD 2 .skip) (Exit.then K Q) ⟨t, []⟩ w := by
  conv => arg 2; whnf
  rw [lit178 t hs.size]
  simp only [hs.s0, hs.s3, hs.s4, hs.s5, hs.s7, hs.s8, hs.s11, hs.s41, hs.s42, h10]
  obtain ⟨g, cap, hv⟩ := hr.formW hw
  subst hv
  have c1 := cell_of_one hr.wlkB
  obtain ⟨c2, c3, c4⟩ := hr.topWlk hw rfl
  obtain ⟨b, off, cp, c5, c6, hxn, hl4⟩ := hadj.at hvn he
  have hr1 := hr.bump hw rfl
  have hlw : Hid ((w1 ++ [(v, e + 1)]).length ≤ 12) := by show _ ≤ 12; simp; omega
  generalize (adj v)[e] = x at *
  generalize w1.length = m at *
  have hei : (e : Int) < ((adj v).length : Int) := by omega
  have hvi : (v : Int) < (n : Int) := by omega
  have hxi : (x : Int) < (n : Int) := by omega
  have hgB : B + 8 ≤ g := (hr.wlk.lt g rfl).1
  have c7 := cell_of_one hr.ordB
  have c8 := (hr.cOrd hxn).1
  rw [ho] at c8
  have HR : ∀ N, Hid (Rep w0 ((w.drewN N).setCell ⟨g, m * 2 + 1, none⟩ (.int .i64 ((e : Int) + 1))) B n { s with wlk := w1 ++ [(v, e + 1)] } sv (.slice (some ⟨g, 0, none⟩) (m + 1) cap)) := fun N => hr1.drewN N
  clear hr hr1 hadj
  go_wp2_with fail
  go_quiet (fail)
  go_wp2_with fail
  go_quiet (fail)
  go_wp2_with fail
  refine (visit_any w0 _ B n x { s with wlk := w1 ++ [(v, e + 1)] } sv _ pe hxn hl3 hl2 hlw.out (HR _).out).mono ?_
  rintro e1 w3 ⟨rfl, sv1, wv1, hr3⟩
  have HR3 : Hid (Rep w0 w3 B n (s.visit x (w1 ++ [(v, e + 1)]) pe) sv1 wv1) := hr3
  clear hr3 HR c1 c2 c3 c4 c5 c6 c7 c8
  go_wp2_with fail
  exact hK _ _ _ _ ⟨rfl, rfl, rfl, rfl, rfl, rfl, rfl, rfl, rfl, rfl⟩ rfl HR3.out
end Go.Proofs.Ybulkawqg
