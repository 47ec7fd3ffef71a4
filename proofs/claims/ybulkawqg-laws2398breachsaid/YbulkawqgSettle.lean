/-
  components: the rounds of the inner loop: a component is settled.
-/
import Derived.Test.YbulkawqgPop
namespace Go.Proofs.Ybulkawqg
open Go.RowKit
open Plain (upd St)

set_option maxRecDepth 100000 in
set_option maxHeartbeats 1600000 in
theorem round_settle0 (gb B n : Nat) (k : Int) (adj : Nat → List Nat) (t : Array Value) (w0 w : World) (s : St) (sv wv : Value) (hs : Sl t gb B n k) (h10 : t.getD 10 undef = .int .i32 (s.fnd : Int)) (hr : Rep w0 w B n s sv wv)
    (hadj : AdjAt w gb n adj) (v : Nat) (hw : s.wlk = [] ++ [(v, (adj v).length)]) (hvn : v < n) (heq : s.low v = s.ord v) (s0 s1 : List Nat) (hst : s.stk = s0 ++ v :: s1) (hsn : ∀ x, x ∈ s.stk → x < n) (hl : s.stk.length ≤ 12) (hnd : v ∉ s1)
    (hfn : s.fnd ≤ 12)
    (K : Act → World → Prop) (Q : Exit → Act → World → Prop)
    (hK : ∀ t' w' sv' wv', Sl t' gb B n k → t'.getD 10 undef = .int .i32 ((s.fnd + 1 : Nat) : Int) → Rep w0 w' B n (s.settle [] s0 (v :: s1)) sv' wv' → K ⟨t', []⟩ w') :
    Code.wp Yba.prog ((loops (Yba.f22.body.getD .skip)).getD 2 .skip) (Exit.then K Q) ⟨t, []⟩ w := by
  conv => arg 2; whnf
  rw [lit178 t hs.size]
  simp only [hs.s0, hs.s3, hs.s4, hs.s5, hs.s7, hs.s8, hs.s11, hs.s41, hs.s42, h10]
  obtain ⟨g, cap, hv⟩ := hr.formW hw
  simp only [List.length_nil, Nat.zero_add] at hv
  subst hv
  have c1 := cell_of_one hr.wlkB
  have f1 := free_of_one hr.wlkB
  obtain ⟨c2, c3, -⟩ := hr.topWlk (m := 0) hw rfl
  simp only [Nat.zero_mul, Nat.zero_add] at c2 c3
  obtain ⟨ao, cp, c5, hl4⟩ := hadj.row hvn
  have hcap := hr.capW
  have hr1 := hr.popWlk (m := 0) hw rfl
  have c7 := cell_of_one hr1.ordB
  have c8 := (hr1.cOrd hvn).1
  have c10 := cell_of_one hr1.lowB
  have c11 := (hr1.cLow hvn).1
  simp only at c8 c11
  have hvi : (v : Int) < (n : Int) := by omega
  have hcap' : (0 : Int) ≤ (cap : Int) := by omega
  have hb : (s.low v == s.ord v) = true := by simpa using heq
  have HR : ∀ N, Hid (Rep w0 ((w.drewN N).setCell ⟨B + 6, 0, none⟩ (.slice (some ⟨g, 0, none⟩) 0 cap)) B n { s with wlk := [] } sv (.slice (some ⟨g, 0, none⟩) 0 cap)) := fun N => hr1.drewN N
  have HE : Hid (s.low v = s.ord v) := heq
  clear hr hr1 hadj heq
  go_wp2_with fail
  go_quiet (fail)
  generalize nq = q1 at *
  go_wp2_with fail
  have hr2 := (HR q1).out
  generalize (w.drewN q1).setCell ⟨B + 6, 0, none⟩ (.slice (some ⟨g, 0, none⟩) 0 cap) = w3 at *
  clear c1 c2 c3 c5 f1 HR hcap hcap' c7 c8 c10 c11
  have c7 := cell_of_one hr2.ordB
  have c8 := (hr2.cOrd hvn).1
  have c10 := cell_of_one hr2.lowB
  have c11 := (hr2.cLow hvn).1
  simp only at c8 c11
  go_quiet (fail)
  go_wp2_with fail
  have hr3 := hr2.drewN nq
  clear c7 c8 c10 c11 hr2
  refine pop_loop gb B n v k (s.fnd : Int) _ w0 _ { s with wlk := [] } sv _ ⟨rfl, rfl, rfl, rfl, rfl, rfl, rfl, rfl, rfl, rfl⟩ rfl rfl hr3 s0 s1 hst hsn hl hnd _ ?_
  intro t' w' sv' hs' h10' h14' hr'
  have HR4 : Hid (Rep w0 w' B n (s.settle [] s0 (v :: s1)) sv' (.slice (some ⟨g, 0, none⟩) 0 cap)) := ⟨hr'.ord, hr'.ordB, hr'.low, hr'.lowB, hr'.comp, hr'.stkB, hr'.wlkB, hr'.visB, hr'.stk, hr'.wlk, hr'.old⟩
  clear hr' hr3
  rw [lit178 t' hs'.size]
  simp only [hs'.s0, hs'.s3, hs'.s4, hs'.s5, hs'.s7, hs'.s8, hs'.s11, hs'.s41, hs'.s42, h10', h14']
  go_wp2_with fail
  exact hK _ _ _ _ ⟨rfl, rfl, rfl, rfl, rfl, rfl, rfl, rfl, rfl, rfl⟩ rfl HR4.out

set_option maxRecDepth 100000 in
set_option maxHeartbeats 1600000 in
theorem round_settle1 (gb B n : Nat) (k : Int) (adj : Nat → List Nat) (t : Array Value) (w0 w : World) (s : St) (sv wv : Value) (hs : Sl t gb B n k) (h10 : t.getD 10 undef = .int .i32 (s.fnd : Int)) (hr : Rep w0 w B n s sv wv)
    (hadj : AdjAt w gb n adj) (w2 : List (Nat × Nat)) (u e' v : Nat) (hw : s.wlk = w2 ++ [(u, e')] ++ [(v, (adj v).length)]) (hvn : v < n) (hun : u < n) (heq : s.low v = s.ord v) (hlu : s.low u ≤ s.low v)
    (hl1 : w2.length ≤ 10) (s0 s1 : List Nat) (hst : s.stk = s0 ++ v :: s1) (hsn : ∀ x, x ∈ s.stk → x < n) (hl : s.stk.length ≤ 12) (hnd : v ∉ s1) (hfn : s.fnd ≤ 12)
    (K : Act → World → Prop) (Q : Exit → Act → World → Prop)
    (hK : ∀ t' w' sv' wv', Sl t' gb B n k → t'.getD 10 undef = .int .i32 ((s.fnd + 1 : Nat) : Int) → Rep w0 w' B n (s.settle (w2 ++ [(u, e')]) s0 (v :: s1)) sv' wv' → K ⟨t', []⟩ w') :
    Code.wp Yba.prog ((loops (Yba.f22.body.getD .skip)).getD 2 .skip) (Exit.then K Q) ⟨t, []⟩ w := by
  conv => arg 2; whnf
  rw [lit178 t hs.size]
  simp only [hs.s0, hs.s3, hs.s4, hs.s5, hs.s7, hs.s8, hs.s11, hs.s41, hs.s42, h10]
  have hlw : (w2 ++ [(u, e')]).length = w2.length + 1 := by simp
  obtain ⟨g, cap, hv⟩ := hr.formW hw
  rw [hlw] at hv
  subst hv
  have c1 := cell_of_one hr.wlkB
  have f1 := free_of_one hr.wlkB
  obtain ⟨c2, c3, -⟩ := hr.topWlk hw hlw
  have hcap := hr.capW
  obtain ⟨ao, cp, c5, hl4⟩ := hadj.row hvn
  have hr1 := hr.popWlk hw hlw
  clear hlw hadj
  have d2 : ∀ N, ((w.drewN N).setCell ⟨B + 6, 0, none⟩ (.slice (some ⟨g, 0, none⟩) (w2.length + 1) cap)).cell? ⟨g, w2.length * 2, none⟩ = some (.int .i32 (u : Int)) := fun N => (hr1.topWlk (s := { s with wlk := w2 ++ [(u, e')] }) (w1 := w2) rfl rfl).1
  generalize w2.length = m at *
  have hcap' : (m : Int) + 1 ≤ (cap : Int) := by simp at hcap; omega
  have hvi : (v : Int) < (n : Int) := by omega
  have hui : (u : Int) < (n : Int) := by omega
  have HR : ∀ N, Hid (Rep w0 ((w.drewN N).setCell ⟨B + 6, 0, none⟩ (.slice (some ⟨g, 0, none⟩) (m + 1) cap)) B n { s with wlk := w2 ++ [(u, e')] } sv (.slice (some ⟨g, 0, none⟩) (m + 1) cap)) := fun N => hr1.drewN N
  have hb : (s.low v == s.ord v) = true := by simpa using heq
  clear hr hr1 heq
  go_wp2_with fail
  go_quiet (fail)
  generalize nq = q1 at *
  go_wp2_with fail
  have hr2 := (HR q1).out
  generalize (w.drewN q1).setCell ⟨B + 6, 0, none⟩ (.slice (some ⟨g, 0, none⟩) (m + 1) cap) = w3 at *
  clear c1 c2 c3 c5 f1 d2 HR hcap hcap'
  have c10 := cell_of_one hr2.lowB
  have c11 := (hr2.cLow hvn).1
  obtain ⟨c13, c14⟩ := hr2.cLow hun
  simp only at c11 c13
  have hup : upd s.low u (s.low u) = s.low := by
    funext j; by_cases e : j = u <;> simp [upd, e]
  have HR : Hid (Rep w0 (w3.setCell ⟨B + 2, u, none⟩ (.int .i32 (s.low u))).drew B n { s with wlk := w2 ++ [(u, e')] } sv (.slice (some ⟨g, 0, none⟩) (m + 1) cap)) := by
    have h3 := (hr2.setLow u (s.low u)).drew
    exact ⟨h3.ord, h3.ordB, by have := h3.low; simp only [hup] at this; exact this, h3.lowB, h3.comp, h3.stkB, h3.wlkB, h3.visB, h3.stk, h3.wlk, h3.old⟩
  clear hr2 hup
  have hmin : ¬ s.low v < s.low u := by omega
  clear hlu
  go_still_tail 11, (by kernel_rfl)
  go_wp2_with fail
  have hr3 := HR.out
  generalize (w3.setCell ⟨B + 2, u, none⟩ (.int .i32 (s.low u))).drew = w4 at *
  clear c10 c11 c13 c14 HR
  have c7 := cell_of_one hr3.ordB
  have c8 := (hr3.cOrd hvn).1
  have c10 := cell_of_one hr3.lowB
  have c11 := (hr3.cLow hvn).1
  simp only at c8 c11
  go_quiet (fail)
  go_wp2_with fail
  have hr4 := hr3.drewN nq
  clear c7 c8 c10 c11 hr3
  refine pop_loop gb B n v k (s.fnd : Int) _ w0 _ { s with wlk := w2 ++ [(u, e')] } sv _ ⟨rfl, rfl, rfl, rfl, rfl, rfl, rfl, rfl, rfl, rfl⟩ rfl rfl hr4 s0 s1 hst hsn hl hnd _ ?_
  intro t' w' sv' hs' h10' h14' hr'
  have HR4 : Hid (Rep w0 w' B n (s.settle (w2 ++ [(u, e')]) s0 (v :: s1)) sv' (.slice (some ⟨g, 0, none⟩) (m + 1) cap)) := ⟨hr'.ord, hr'.ordB, hr'.low, hr'.lowB, hr'.comp, hr'.stkB, hr'.wlkB, hr'.visB, hr'.stk, hr'.wlk, hr'.old⟩
  clear hr' hr4
  rw [lit178 t' hs'.size]
  simp only [hs'.s0, hs'.s3, hs'.s4, hs'.s5, hs'.s7, hs'.s8, hs'.s11, hs'.s41, hs'.s42, h10', h14']
  go_wp2_with fail
  exact hK _ _ _ _ ⟨rfl, rfl, rfl, rfl, rfl, rfl, rfl, rfl, rfl, rfl⟩ rfl HR4.out
end Go.Proofs.Ybulkawqg
