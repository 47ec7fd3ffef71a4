/-
  components: the outer loop.
-/
import Derived.Test.YbulkawqgInner
namespace Go.Proofs.Ybulkawqg
open Go.RowKit
open Plain (upd St)

set_option maxRecDepth 100000 in
set_option maxHeartbeats 1600000 in
theorem outer_exit (gb B n : Nat) (t : Array Value) (w : World) (s : St) (hs : Sl t gb B n (n : Int)) (h10 : t.getD 10 undef = .int .i32 (s.fnd : Int))
    (K : Act → World → Prop) (Q : Exit → Act → World → Prop) (hexit : ∀ t', Sl t' gb B n (n : Int) → Q (.exit 2) ⟨t', []⟩ w) :
    Code.wp Yba.prog ((loops (Yba.f22.body.getD .skip)).getD 1 .skip) (Exit.then K Q) ⟨t, []⟩ w := by
  conv => arg 2; whnf
  rw [lit178 t hs.size]
  simp only [hs.s0, hs.s3, hs.s4, hs.s5, hs.s7, hs.s8, hs.s11, hs.s41, hs.s42, h10]
  go_wp2_with fail
  exact ⟨rfl, rfl, rfl, rfl, rfl, rfl, rfl, rfl, rfl, rfl⟩

set_option maxRecDepth 100000 in
set_option maxHeartbeats 1600000 in
theorem outer_skip (gb B n k : Nat) (t : Array Value) (w0 w : World) (s : St) (sv wv : Value) (hs : Sl t gb B n (k : Int)) (h10 : t.getD 10 undef = .int .i32 (s.fnd : Int)) (hr : Rep w0 w B n s sv wv)
    (hkn : k < n) (hn : n ≤ 12) (ho : s.ord k ≠ -1)
    (K : Act → World → Prop) (Q : Exit → Act → World → Prop) (hK : ∀ t', Sl t' gb B n ((k : Int) + 1) → t'.getD 10 undef = .int .i32 (s.fnd : Int) → K ⟨t', []⟩ w) :
    Code.wp Yba.prog ((loops (Yba.f22.body.getD .skip)).getD 1 .skip) (Exit.then K Q) ⟨t, []⟩ w := by
  conv => arg 2; whnf
  rw [lit178 t hs.size]
  simp only [hs.s0, hs.s3, hs.s4, hs.s5, hs.s7, hs.s8, hs.s11, hs.s41, hs.s42, h10]
  have c1 := cell_of_one hr.ordB
  have c2 := (hr.cOrd hkn).1
  have hki : (k : Int) < (n : Int) := by omega
  have ho' : (s.ord k != -1) = true := by simp [ho]
  clear hr
  go_wp2_with fail
  exact hK _ ⟨rfl, rfl, rfl, rfl, rfl, rfl, rfl, rfl, rfl, rfl⟩ rfl

set_option maxRecDepth 100000 in
set_option maxHeartbeats 1600000 in
theorem outer_visit (gb B n k : Nat) (adj : Nat → List Nat) (t : Array Value) (w0 w : World) (s : St) (sv wv : Value) (hs : Sl t gb B n (k : Int)) (h10 : t.getD 10 undef = .int .i32 (s.fnd : Int)) (hr : Rep w0 w B n s sv wv)
    (ht : Plain.TI adj n s) (hadj : AdjAt w0 gb n adj) (hB : w0.heap.size = B) (hwl : s.wlk = [])
    (hkn : k < n) (hn : n ≤ 12) (ho : s.ord k = -1)
    (K : Act → World → Prop) (Q : Exit → Act → World → Prop)
    (hK : ∀ t' w' s' sv' wv', Sl t' gb B n ((k : Int) + 1) → t'.getD 10 undef = .int .i32 ((St.fnd s' : Nat) : Int) → Rep w0 w' B n s' sv' wv' → Plain.TI adj n s' → s'.wlk = [] → (∀ u, u = k ∨ s.ord u ≠ -1 → s'.ord u ≠ -1) → K ⟨t', []⟩ w') :
    Code.wp Yba.prog ((loops (Yba.f22.body.getD .skip)).getD 1 .skip) (Exit.then K Q) ⟨t, []⟩ w := by
  conv => arg 2; whnf
  rw [lit178 t hs.size]
  simp only [hs.s0, hs.s3, hs.s4, hs.s5, hs.s7, hs.s8, hs.s11, hs.s41, hs.s42, h10]
  have c1 := cell_of_one hr.ordB
  have c2 := (hr.cOrd hkn).1
  have hki : (k : Int) < (n : Int) := by omega
  have ho' : (s.ord k != -1) = false := by simp [ho]
  have hv12 : s.vis ≤ 12 := by have := ht.visLen; omega
  have hsl12 : s.stk.length ≤ 12 := by have := ht.stkLen; omega
  have hwl12 : Hid (s.wlk.length ≤ 12) := by rw [hwl]; exact Nat.zero_le _
  have ht1 := ht.root hwl hkn ho
  have ew : s.visit k [] s.pe = s.visit k s.wlk s.pe := by rw [hwl]
  rw [ew] at ht1
  have hvs1 : Hid (∀ u, u = k ∨ s.ord u ≠ -1 → (s.visit k s.wlk s.pe).ord u ≠ -1) := by
    intro u hu
    show upd s.ord k (s.vis : Int) u ≠ -1
    by_cases e : u = k
    · rw [e, Plain.upd_same]; omega
    · rw [Plain.upd_other _ _ e]; exact hu.resolve_left e
  have HB : Hid (w0.heap.size = B) := hB
  have HR : Hid (Rep w0 w B n s sv wv) := hr
  have HO : Hid (s.ord k = -1) := ho
  have HW : Hid (s.wlk = []) := hwl
  clear hB hr ho ew hwl
  go_wp2_with fail
  refine (visit_any w0 w B n k s sv wv s.pe hkn hv12 hsl12 hwl12.out HR.out).mono ?_
  rintro e w3 ⟨rfl, sv1, wv1, hr1⟩
  have HF : Hid ((s.visit k s.wlk s.pe).fnd = s.fnd) := rfl
  generalize s.visit k s.wlk s.pe = s1 at *
  clear c1 c2 ho' hv12 hsl12 hwl12 HR
  go_wp2_with fail
  refine inner_loop gb B n (k : Int) adj _ w0 w3 s1 sv1 wv1 ⟨rfl, rfl, rfl, rfl, rfl, rfl, rfl, rfl, rfl, rfl⟩ (by rw [HF.out]; rfl) hr1 ht1 hadj HB.out hn _ ?_
  intro t' w' s' sv' wv' hs' h10' hr' ht' hw' hord
  have hfin : Hid (∀ u, u = k ∨ s.ord u ≠ -1 → s'.ord u ≠ -1) := fun u hu => hord u (hvs1.out u hu)
  have HR : Hid (Rep w0 w' B n s' sv' wv') := hr'
  have HW' : Hid (s'.wlk = []) := hw'
  clear hr' hr1 hord hvs1 hw'
  rw [lit178 t' hs'.size]
  simp only [hs'.s0, hs'.s3, hs'.s4, hs'.s5, hs'.s7, hs'.s8, hs'.s11, hs'.s41, hs'.s42, h10']
  go_wp2_with fail
  exact hK _ _ s' _ _ ⟨rfl, rfl, rfl, rfl, rfl, rfl, rfl, rfl, rfl, rfl⟩ rfl HR.out ht' HW'.out hfin.out

theorem outer_loop (gb B n : Nat) (adj : Nat → List Nat) (t : Array Value) (w0 w : World) (s : St) (sv wv : Value) (hs : Sl t gb B n 0) (h10 : t.getD 10 undef = .int .i32 (s.fnd : Int)) (hr : Rep w0 w B n s sv wv)
    (ht : Plain.TI adj n s) (hwl : s.wlk = []) (hadj : AdjAt w0 gb n adj) (hB : w0.heap.size = B) (hn : n ≤ 12)
    (Q : Exit → Act → World → Prop)
    (hQ : ∀ t' w' s' sv' wv', Sl t' gb B n (n : Int) → Rep w0 w' B n s' sv' wv' → (∀ u v, u < n → v < n → (St.comp s' u = St.comp s' v ↔ Plain.Reach adj u v ∧ Plain.Reach adj v u)) → Q (.exit 2) ⟨t', []⟩ w') :
    Code.wp Yba.prog (Code.loop ((loops (Yba.f22.body.getD .skip)).getD 1 .skip)) Q ⟨t, []⟩ w := by
  refine wp_loop_ghost (fun g a w' => ∃ (k : Nat) (t' : Array Value) (s' : St) (sv' wv' : Value), k ≤ n ∧ g = n - k ∧ a = ⟨t', []⟩ ∧ Sl t' gb B n (k : Int) ∧ t'.getD 10 undef = .int .i32 ((St.fnd s' : Nat) : Int) ∧ Rep w0 w' B n s' sv' wv' ∧ Plain.TI adj n s' ∧ s'.wlk = [] ∧ ∀ u, u < k → s'.ord u ≠ -1) n ?_ ?_
  · exact ⟨0, t, s, sv, wv, Nat.zero_le _, rfl, rfl, hs, h10, hr, ht, hwl, fun u h => by omega⟩
  clear hs h10 hr ht hwl
  rintro g a w' ⟨k, t1, s1, sv1, wv1, hk, rfl, rfl, hs, h10, hr, ht, hwl, hvs⟩
  by_cases hkn : k < n
  · by_cases ho : s1.ord k = -1
    · refine outer_visit gb B n k adj t1 w0 w' s1 sv1 wv1 hs h10 hr ht hadj hB hwl hkn hn ho _ _ (fun t2 w2 s2 sv2 wv2 hs2 h2 hr2 ht2 hwl2 hord => ?_)
      exact ⟨n - (k + 1), by omega, k + 1, t2, s2, sv2, wv2, by omega, rfl, rfl, hs2, h2, hr2, ht2, hwl2, fun u hu => hord u (by
        by_cases e : u = k
        · exact Or.inl e
        · exact Or.inr (hvs u (by omega)))⟩
    · refine outer_skip gb B n k t1 w0 w' s1 sv1 wv1 hs h10 hr hkn hn ho _ _ (fun t2 hs2 h2 => ?_)
      exact ⟨n - (k + 1), by omega, k + 1, t2, s1, sv1, wv1, by omega, rfl, rfl, hs2, h2, hr, ht, hwl, fun u hu => by
        by_cases e : u = k
        · rw [e]; exact ho
        · exact hvs u (by omega)⟩
  · have e : k = n := by omega
    subst e
    exact outer_exit gb B k t1 w' s1 hs h10 _ _ (fun t2 hs2 => hQ t2 w' s1 sv1 wv1 hs2 hr (ht.fin hwl hvs))
end Go.Proofs.Ybulkawqg
