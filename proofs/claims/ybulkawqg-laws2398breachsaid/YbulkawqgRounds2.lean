/-
  components: the rounds of the inner loop: an edge to a vertex that was visited.
-/
import Derived.Test.YbulkawqgRounds
import Derived.StillTailTactics
namespace Go.Proofs.Ybulkawqg
open Go.RowKit
open Plain (upd St)

set_option maxRecDepth 100000 in
set_option maxHeartbeats 1600000 in
theorem round_skip (gb B n : Nat) (k : Int) (adj : Nat → List Nat) (t : Array Value) (w0 w : World) (s : St) (sv wv : Value) (hs : Sl t gb B n k) (h10 : t.getD 10 undef = .int .i32 (s.fnd : Int)) (hr : Rep w0 w B n s sv wv)
    (hadj : AdjAt w gb n adj) (w1 : List (Nat × Nat)) (v e : Nat) (hw : s.wlk = w1 ++ [(v, e)]) (hvn : v < n) (he : e < (adj v).length) (ho : s.ord (adj v)[e] ≠ -1) (hc : s.comp (adj v)[e] ≠ -1)
    (hl1 : w1.length ≤ 11)
    (K : Act → World → Prop) (Q : Exit → Act → World → Prop)
    (hK : ∀ t' w' sv' wv', Sl t' gb B n k → t'.getD 10 undef = .int .i32 (s.fnd : Int) → Rep w0 w' B n (s.pass w1 v e (s.low v)) sv' wv' → K ⟨t', []⟩ w') :
    Code.wp Yba.prog ((loops (Yba.f22.body.getD .skip)).getD 2 .skip) (Exit.then K Q) ⟨t, []⟩ w := by
  conv => arg 2; whnf
  rw [lit178 t hs.size]
  simp only [hs.s0, hs.s3, hs.s4, hs.s5, hs.s7, hs.s8, hs.s11, hs.s41, hs.s42, h10]
  obtain ⟨g, cap, hv⟩ := hr.formW hw
  subst hv
  have c1 := cell_of_one hr.wlkB
  obtain ⟨c2, c3, c4⟩ := hr.topWlk hw rfl
  obtain ⟨b, off, cp, c5, c6, hxn, hl4⟩ := hadj.at hvn he
  have hr1 := hr.bump hw rfl
  have hup : upd s.low v (s.low v) = s.low := by
    funext j; by_cases e : j = v <;> simp [upd, e]
  have hr1 : Rep w0 (w.setCell ⟨g, w1.length * 2 + 1, none⟩ (.int .i64 ((e + 1 : Nat) : Int))) B n (s.pass w1 v e (s.low v)) sv (.slice (some ⟨g, 0, none⟩) (w1.length + 1) cap) :=
    ⟨hr1.ord, hr1.ordB, by show World.rowIs _ _ _ _ (fun u => .int .i32 (upd s.low v (s.low v) u)); rw [hup]; exact hr1.low, hr1.lowB, hr1.comp, hr1.stkB, hr1.wlkB, hr1.visB, hr1.stk, hr1.wlk, hr1.old⟩
  clear hup
  generalize (adj v)[e] = x at *
  generalize w1.length = m at *
  have hei : (e : Int) < ((adj v).length : Int) := by omega
  have hvi : (v : Int) < (n : Int) := by omega
  have hxi : (x : Int) < (n : Int) := by omega
  have hgB : B + 8 ≤ g := (hr.wlk.lt g rfl).1
  have c7 := cell_of_one hr.ordB
  have c8 := (hr.cOrd hxn).1
  have c9 := (hr.cComp hxn).1
  have d1 : (s.ord x == -1) = false := by simpa using ho
  have d2 : (s.comp x == -1) = false := by simpa using hc
  have HR : ∀ N, Hid (Rep w0 ((w.drewN N).setCell ⟨g, m * 2 + 1, none⟩ (.int .i64 ((e : Int) + 1))) B n (s.pass w1 v e (s.low v)) sv (.slice (some ⟨g, 0, none⟩) (m + 1) cap)) := fun N => hr1.drewN N
  clear hr hr1 hadj ho hc
  go_wp2_with fail
  go_quiet (fail)
  go_wp2_with fail
  go_quiet (fail)
  go_wp2_with fail
  exact hK _ _ _ _ ⟨rfl, rfl, rfl, rfl, rfl, rfl, rfl, rfl, rfl, rfl⟩ rfl (HR _).out

set_option maxRecDepth 100000 in
set_option maxHeartbeats 1600000 in
theorem round_low (gb B n : Nat) (k : Int) (adj : Nat → List Nat) (t : Array Value) (w0 w : World) (s : St) (sv wv : Value) (hs : Sl t gb B n k) (h10 : t.getD 10 undef = .int .i32 (s.fnd : Int)) (hr : Rep w0 w B n s sv wv)
    (hadj : AdjAt w gb n adj) (w1 : List (Nat × Nat)) (v e : Nat) (hw : s.wlk = w1 ++ [(v, e)]) (hvn : v < n) (he : e < (adj v).length) (ho : s.ord (adj v)[e] ≠ -1) (hc : s.comp (adj v)[e] = -1)
    (hl1 : w1.length ≤ 11)
    (K : Act → World → Prop) (Q : Exit → Act → World → Prop)
    (hK : ∀ t' w' sv' wv', Sl t' gb B n k → t'.getD 10 undef = .int .i32 (s.fnd : Int) → Rep w0 w' B n (s.pass w1 v e (min (s.low v) (s.ord (adj v)[e]))) sv' wv' → K ⟨t', []⟩ w') :
    Code.wp Yba.prog ((loops (Yba.f22.body.getD .skip)).getD 2 .skip) (Exit.then K Q) ⟨t, []⟩ w := by
  conv => arg 2; whnf
  rw [lit178 t hs.size]
  simp only [hs.s0, hs.s3, hs.s4, hs.s5, hs.s7, hs.s8, hs.s11, hs.s41, hs.s42, h10]
  obtain ⟨g, cap, hv⟩ := hr.formW hw
  subst hv
  have c1 := cell_of_one hr.wlkB
  obtain ⟨c2, c3, c4⟩ := hr.topWlk hw rfl
  obtain ⟨b, off, cp, c5, c6, hxn, hl4⟩ := hadj.at hvn he
  have hr1 := hr.bump hw rfl
  generalize (adj v)[e] = x at *
  generalize w1.length = m at *
  have hei : (e : Int) < ((adj v).length : Int) := by omega
  have hvi : (v : Int) < (n : Int) := by omega
  have hxi : (x : Int) < (n : Int) := by omega
  have hgB : B + 8 ≤ g := (hr.wlk.lt g rfl).1
  have c7 := cell_of_one hr.ordB
  have c8 := (hr.cOrd hxn).1
  have c9 := (hr.cComp hxn).1
  have c10 := cell_of_one hr.lowB
  obtain ⟨c11, c12⟩ := hr.cLow hvn
  have d1 : (s.ord x == -1) = false := by simpa using ho
  have d2 : (s.comp x == -1) = true := by simpa using hc
  have HR : ∀ N, Hid (Rep w0 ((w.drewN N).setCell ⟨g, m * 2 + 1, none⟩ (.int .i64 ((e : Int) + 1))) B n { s with wlk := w1 ++ [(v, e + 1)] } sv (.slice (some ⟨g, 0, none⟩) (m + 1) cap)) := fun N => hr1.drewN N
  clear hr hr1 hadj ho hc
  go_wp2_with fail
  go_quiet (fail)
  generalize nq = q1 at *
  go_wp2_with fail
  go_quiet (fail)
  generalize nq = q2 at *
  go_wp2_with fail
  have hr2 := (HR (q1 + q2)).out
  generalize (w.drewN (q1 + q2)).setCell ⟨g, m * 2 + 1, none⟩ (.int .i64 ((e : Int) + 1)) = w2 at *
  clear c1 c2 c3 c4 c5 c6 c7 c8 c9 c10 c11 c12 HR
  have c7 := cell_of_one hr2.ordB
  have c8 := (hr2.cOrd hxn).1
  have c10 := cell_of_one hr2.lowB
  obtain ⟨c11, c12⟩ := hr2.cLow hvn
  simp only at c8 c11
  have HR : ∀ l, Hid (Rep w0 (w2.setCell ⟨B + 2, v, none⟩ (.int .i32 l)).drew B n (s.pass w1 v e l) sv (.slice (some ⟨g, 0, none⟩) (m + 1) cap)) := fun l => by
    have h3 := (hr2.setLow v l).drew
    exact ⟨h3.ord, h3.ordB, h3.low, h3.lowB, h3.comp, h3.stkB, h3.wlkB, h3.visB, h3.stk, h3.wlk, h3.old⟩
  clear hr2 d1 d2
  by_cases hmin : s.ord x < s.low v
  · have em : Hid (min (s.low v) (s.ord x) = s.ord x) := by show _ = _; omega
    go_still_tail 11, (by kernel_rfl)
    go_wp2_with fail
    exact hK _ _ _ _ ⟨rfl, rfl, rfl, rfl, rfl, rfl, rfl, rfl, rfl, rfl⟩ rfl (by rw [em.out]; exact (HR _).out)
  · have em : Hid (min (s.low v) (s.ord x) = s.low v) := by show _ = _; omega
    go_still_tail 11, (by kernel_rfl)
    go_wp2_with fail
    exact hK _ _ _ _ ⟨rfl, rfl, rfl, rfl, rfl, rfl, rfl, rfl, rfl, rfl⟩ rfl (by rw [em.out]; exact (HR _).out)
end Go.Proofs.Ybulkawqg
