/-
  components: the rounds of the inner loop: a frame is left.
-/
import Derived.Test.YbulkawqgRounds2
namespace Go.Proofs.Ybulkawqg
open Go.RowKit
open Plain (upd St)

/-- The row of a vertex. -/
theorem AdjAt.row {w : World} {gb n v : Nat} {adj : Nat → List Nat} (h : AdjAt w gb n adj) (hv : v < n) :
    ∃ ao cap, w.cell? ⟨gb, v, none⟩ = some (.slice ao (adj v).length cap) ∧ (adj v).length ≤ 1024 := by
  obtain ⟨_, h2, _, ao, cap, h4, _⟩ := h v hv
  exact ⟨ao, cap, h4, h2⟩

theorem Rep.capW {w0 w : World} {B n : Nat} {s : St} {sv : Value} {g m cap : Nat} (h : Rep w0 w B n s sv (.slice (some ⟨g, 0, none⟩) m cap)) : (m : Int) ≤ (cap : Int) := by
  rcases h.wlk.2 with ⟨e, _⟩ | ⟨g', cap', cur, e, _, _, hn, _⟩
  · cases e
  · simp at e; omega
theorem Rep.capS {w0 w : World} {B n : Nat} {s : St} {wv : Value} {g m cap : Nat} (h : Rep w0 w B n s (.slice (some ⟨g, 0, none⟩) m cap) wv) : (m : Int) ≤ (cap : Int) := by
  rcases h.stk.2 with ⟨e, _⟩ | ⟨g', cap', cur, e, _, _, hn, _⟩
  · cases e
  · simp at e; omega

set_option maxRecDepth 100000 in
set_option maxHeartbeats 1600000 in
theorem round_fold (gb B n : Nat) (k : Int) (adj : Nat → List Nat) (t : Array Value) (w0 w : World) (s : St) (sv wv : Value) (hs : Sl t gb B n k) (h10 : t.getD 10 undef = .int .i32 (s.fnd : Int)) (hr : Rep w0 w B n s sv wv)
    (hadj : AdjAt w gb n adj) (w2 : List (Nat × Nat)) (u e' v : Nat) (hw : s.wlk = w2 ++ [(u, e')] ++ [(v, (adj v).length)]) (hvn : v < n) (hun : u < n) (huv : u ≠ v) (hne : s.low v ≠ s.ord v)
    (hl1 : w2.length ≤ 10)
    (K : Act → World → Prop) (Q : Exit → Act → World → Prop)
    (hK : ∀ t' w' sv' wv', Sl t' gb B n k → t'.getD 10 undef = .int .i32 (s.fnd : Int) → Rep w0 w' B n (s.fold w2 u e' v) sv' wv' → K ⟨t', []⟩ w') :
    Code.wp Yba.prog ((loops (Yba.f22.body.getD .skip)).getD 2 .skip) (Exit.then K Q) ⟨t, []⟩ w := by
  conv => arg 2; whnf
  rw [lit178 t hs.size]
  simp only [hs.s0, hs.s3, hs.s4, hs.s5, hs.s7, hs.s8, hs.s11, hs.s41, hs.s42, h10]
  have hlw : (w2 ++ [(u, e')]).length = w2.length + 1 := by simp
  obtain ⟨g, cap, hv⟩ := hr.formW hw
  rw [hlw] at hv
  subst hv
  have c1 := cell_of_one hr.wlkB
  have f1 := free_of_one hr.wlkB
  obtain ⟨c2, c3, -⟩ := hr.topWlk hw hlw
  have hcap := hr.capW
  obtain ⟨ao, cp, c5, hl4⟩ := hadj.row hvn
  have hr1 := hr.popWlk hw hlw
  clear hlw hadj
  have d2 : ∀ N, ((w.drewN N).setCell ⟨B + 6, 0, none⟩ (.slice (some ⟨g, 0, none⟩) (w2.length + 1) cap)).cell? ⟨g, w2.length * 2, none⟩ = some (.int .i32 (u : Int)) := fun N => (hr1.topWlk (s := { s with wlk := w2 ++ [(u, e')] }) (w1 := w2) rfl rfl).1
  generalize w2.length = m at *
  have hcap' : (m : Int) + 1 ≤ (cap : Int) := by simp at hcap; omega
  have hvi : (v : Int) < (n : Int) := by omega
  have hui : (u : Int) < (n : Int) := by omega
  have HR : ∀ N, Hid (Rep w0 ((w.drewN N).setCell ⟨B + 6, 0, none⟩ (.slice (some ⟨g, 0, none⟩) (m + 1) cap)) B n { s with wlk := w2 ++ [(u, e')] } sv (.slice (some ⟨g, 0, none⟩) (m + 1) cap)) := fun N => hr1.drewN N
  clear hr hr1
  go_wp2_with fail
  go_quiet (fail)
  generalize nq = q1 at *
  go_wp2_with fail
  have hr2 := (HR q1).out
  generalize (w.drewN q1).setCell ⟨B + 6, 0, none⟩ (.slice (some ⟨g, 0, none⟩) (m + 1) cap) = w3 at *
  clear c1 c2 c3 c5 f1 d2 HR hcap hcap'
  have c10 := cell_of_one hr2.lowB
  have c11 := (hr2.cLow hvn).1
  obtain ⟨c13, c14⟩ := hr2.cLow hun
  simp only at c11 c13
  have HR : ∀ l, Hid (Rep w0 (w3.setCell ⟨B + 2, u, none⟩ (.int .i32 l)).drew B n { s with low := upd s.low u l, wlk := w2 ++ [(u, e')] } sv (.slice (some ⟨g, 0, none⟩) (m + 1) cap)) := fun l => (hr2.setLow u l).drew
  clear hr2
  by_cases hmin : s.low v < s.low u
  · have em : Hid (min (s.low u) (s.low v) = s.low v) := by show _ = _; omega
    go_still_tail 11, (by kernel_rfl)
    go_wp2_with fail
    have hr3 := (HR (s.low v)).out
    generalize (w3.setCell ⟨B + 2, u, none⟩ (.int .i32 (s.low v))).drew = w4 at *
    clear c10 c11 c13 c14 HR
    have c7 := cell_of_one hr3.ordB
    have c8 := (hr3.cOrd hvn).1
    have c10 := cell_of_one hr3.lowB
    have c11 := (hr3.cLow hvn).1
    simp only [Plain.upd_other _ _ (Ne.symm huv)] at c8 c11
    have hb : (s.low v == s.ord v) = false := by simpa using hne
    go_quiet (fail)
    go_wp2_with fail
    have hr4 := hr3.drewN nq
    exact hK _ _ _ _ ⟨rfl, rfl, rfl, rfl, rfl, rfl, rfl, rfl, rfl, rfl⟩ rfl ⟨hr4.ord, hr4.ordB, by show World.rowIs _ _ _ _ (fun j => .int .i32 (upd s.low u (min (s.low u) (s.low v)) j)); rw [em.out]; exact hr4.low, hr4.lowB, hr4.comp, hr4.stkB, hr4.wlkB, hr4.visB, hr4.stk, hr4.wlk, hr4.old⟩
  · have em : Hid (min (s.low u) (s.low v) = s.low u) := by show _ = _; omega
    go_still_tail 11, (by kernel_rfl)
    go_wp2_with fail
    have hr3 := (HR (s.low u)).out
    generalize (w3.setCell ⟨B + 2, u, none⟩ (.int .i32 (s.low u))).drew = w4 at *
    clear c10 c11 c13 c14 HR
    have c7 := cell_of_one hr3.ordB
    have c8 := (hr3.cOrd hvn).1
    have c10 := cell_of_one hr3.lowB
    have c11 := (hr3.cLow hvn).1
    simp only [Plain.upd_other _ _ (Ne.symm huv)] at c8 c11
    have hb : (s.low v == s.ord v) = false := by simpa using hne
    go_quiet (fail)
    go_wp2_with fail
    have hr4 := hr3.drewN nq
    exact hK _ _ _ _ ⟨rfl, rfl, rfl, rfl, rfl, rfl, rfl, rfl, rfl, rfl⟩ rfl ⟨hr4.ord, hr4.ordB, by show World.rowIs _ _ _ _ (fun j => .int .i32 (upd s.low u (min (s.low u) (s.low v)) j)); rw [em.out]; exact hr4.low, hr4.lowB, hr4.comp, hr4.stkB, hr4.wlkB, hr4.visB, hr4.stk, hr4.wlk, hr4.old⟩
end Go.Proofs.Ybulkawqg
