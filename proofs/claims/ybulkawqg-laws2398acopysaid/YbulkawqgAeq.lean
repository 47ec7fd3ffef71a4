/-
  zzs2398aeq: it answers true where the state holds what is asked.
-/
import Derived.Test.YbulkawqgAeqkc
namespace Go.Proofs.Ybulkawqg.A
open Go.RowKit

theorem intsIn_of_own {w : World} {B c : Nat} {x : Option Addr} {zs : List Int} (h : w.ownsRow B 3 1 (.slice x zs.length c) zs.length (i64s zs)) : IntsIn w x zs := by
  intro j hj
  rcases h.2 with ⟨e, h0⟩ | ⟨g, cap, cur, e, hb, hg, rest⟩
  · omega
  · have ex : x = some ⟨g, 0, none⟩ := by simp at e; exact e.1
    subst ex
    refine ⟨g, 0, rfl, (Array.getElem?_eq_some_iff.1 hg).1, ?_⟩
    rw [Nat.zero_add, h.cellAt j (by omega)]
    simp [i64s, hj]

/-- A state in memory, as one reads it. -/
structure Reads (w : World) (pb : Nat) (d : Dat) (xa xb xc : Option Addr) (ka kb kc : Nat) : Prop where
  c0 : w.cell? ⟨pb, 0, none⟩ = some (.int .i64 d.p)
  c1 : w.cell? ⟨pb, 1, none⟩ = some (.int .i64 d.j)
  c2 : w.cell? ⟨pb, 2, none⟩ = some (.int .i64 d.run)
  c3 : w.cell? ⟨pb, 3, none⟩ = some (.int .i64 d.lim)
  c4 : w.cell? ⟨pb, 4, none⟩ = some (.int .i64 d.tie)
  c5 : w.cell? ⟨pb, 5, none⟩ = some (.slice xa d.qa.length ka)
  c6 : w.cell? ⟨pb, 6, none⟩ = some (.slice xb d.qb.length kb)
  c7 : w.cell? ⟨pb, 7, none⟩ = some (.slice xc d.zc.length kc)
  ra : KcIn w xa d.qa
  rb : KcIn w xb d.qb
  rc : IntsIn w xc d.zc

theorem PSt.reads {w : World} {base pb : Nat} {d : Dat} {va vb vc : Value} (h : PSt w base pb d va vb vc) : ∃ xa xb xc ka kb kc, Reads w pb d xa xb xc ka kb kc := by
  have hb := h.blk
  have oa := h.oa
  have ob := h.ob
  have oc := h.oc
  obtain ⟨xa, ka, rfl⟩ := own_shape oa
  obtain ⟨xb, kb, rfl⟩ := own_shape ob
  obtain ⟨xc, kc, rfl⟩ := own_shape oc
  have hcell : ∀ i v, #[Value.int .i64 d.p, .int .i64 d.j, .int .i64 d.run, .int .i64 d.lim, .int .i64 d.tie, .slice xa d.qa.length ka, .slice xb d.qb.length kb, .slice xc d.zc.length kc][i]? = some v → w.cell? ⟨pb, i, none⟩ = some v := fun i v hv => by
    simp only [World.cell?, hb]; simpa using hv
  exact ⟨xa, xb, xc, ka, kb, kc, hcell 0 _ rfl, hcell 1 _ rfl, hcell 2 _ rfl, hcell 3 _ rfl, hcell 4 _ rfl, hcell 5 _ rfl, hcell 6 _ rfl, hcell 7 _ rfl, kcIn_of_own oa, kcIn_of_own ob, intsIn_of_own oc⟩

set_option maxRecDepth 100000 in
set_option maxHeartbeats 1600000 in
theorem aeq_any (d : Dat) (pb : Nat) (xa xb xc aA aB aC : Option Addr) (ka kb kc cA cB cC : Nat) (w : World) (hr : Reads w pb d xa xb xc ka kb kc) (hd : DIn w d aA aB aC) (hA : d.qa.length ≤ 1024) (hB : d.qb.length ≤ 1024) (hC : d.zc.length ≤ 1024) :
    Calls Yba.prog 11 #[.pointer (some ⟨pb, 0, none⟩), .agg #[.int .i64 d.p, .int .i64 d.j, .int .i64 d.run, .int .i64 d.lim, .int .i64 d.tie, .slice aA d.qa.length cA, .slice aB d.qb.length cB, .slice aC d.zc.length cC]] w fun e w' =>
      e = .returned (.bool true) ∧ Below w.heap.size w w' := by
  obtain ⟨r0, r1, r2, r3, r4, r5, r6, r7, ra, rb, rc⟩ := hr
  go_enter Yba.func11, Yba.ntmps11
  go_wp2_with fail
  have hb0 : Below w.heap.size w (w.alloc (.cells #[.int .i64 d.p, .int .i64 d.j, .int .i64 d.run, .int .i64 d.lim, .int .i64 d.tie, .slice aA d.qa.length cA, .slice aB d.qb.length cB, .slice aC d.zc.length cC] 25)) := (Below.refl _ _).alloc (Nat.le_refl _) _
  have hc : ∀ i v, #[Value.int .i64 d.p, .int .i64 d.j, .int .i64 d.run, .int .i64 d.lim, .int .i64 d.tie, .slice aA d.qa.length cA, .slice aB d.qb.length cB, .slice aC d.zc.length cC][i]? = some v →
      (w.alloc (.cells #[.int .i64 d.p, .int .i64 d.j, .int .i64 d.run, .int .i64 d.lim, .int .i64 d.tie, .slice aA d.qa.length cA, .slice aB d.qb.length cB, .slice aC d.zc.length cC] 25)).cell? ⟨w.heap.size, i, none⟩ = some v := fun i v h => by simpa using h
  have c0 := hc 0 _ rfl
  have c1 := hc 1 _ rfl
  have c2 := hc 2 _ rfl
  have c3 := hc 3 _ rfl
  have c4 := hc 4 _ rfl
  have c5 := hc 5 _ rfl
  have c6 := hc 6 _ rfl
  have c7 := hc 7 _ rfl
  clear hc
  replace r0 := cell_al (.cells #[.int .i64 d.p, .int .i64 d.j, .int .i64 d.run, .int .i64 d.lim, .int .i64 d.tie, .slice aA d.qa.length cA, .slice aB d.qb.length cB, .slice aC d.zc.length cC] 25) r0
  replace r1 := cell_al (.cells #[.int .i64 d.p, .int .i64 d.j, .int .i64 d.run, .int .i64 d.lim, .int .i64 d.tie, .slice aA d.qa.length cA, .slice aB d.qb.length cB, .slice aC d.zc.length cC] 25) r1
  replace r2 := cell_al (.cells #[.int .i64 d.p, .int .i64 d.j, .int .i64 d.run, .int .i64 d.lim, .int .i64 d.tie, .slice aA d.qa.length cA, .slice aB d.qb.length cB, .slice aC d.zc.length cC] 25) r2
  replace r3 := cell_al (.cells #[.int .i64 d.p, .int .i64 d.j, .int .i64 d.run, .int .i64 d.lim, .int .i64 d.tie, .slice aA d.qa.length cA, .slice aB d.qb.length cB, .slice aC d.zc.length cC] 25) r3
  replace r4 := cell_al (.cells #[.int .i64 d.p, .int .i64 d.j, .int .i64 d.run, .int .i64 d.lim, .int .i64 d.tie, .slice aA d.qa.length cA, .slice aB d.qb.length cB, .slice aC d.zc.length cC] 25) r4
  replace r5 := cell_al (.cells #[.int .i64 d.p, .int .i64 d.j, .int .i64 d.run, .int .i64 d.lim, .int .i64 d.tie, .slice aA d.qa.length cA, .slice aB d.qb.length cB, .slice aC d.zc.length cC] 25) r5
  replace r6 := cell_al (.cells #[.int .i64 d.p, .int .i64 d.j, .int .i64 d.run, .int .i64 d.lim, .int .i64 d.tie, .slice aA d.qa.length cA, .slice aB d.qb.length cB, .slice aC d.zc.length cC] 25) r6
  replace r7 := cell_al (.cells #[.int .i64 d.p, .int .i64 d.j, .int .i64 d.run, .int .i64 d.lim, .int .i64 d.tie, .slice aA d.qa.length cA, .slice aB d.qb.length cB, .slice aC d.zc.length cC] 25) r7
  generalize w.alloc (.cells #[.int .i64 d.p, .int .i64 d.j, .int .i64 d.run, .int .i64 d.lim, .int .i64 d.tie, .slice aA d.qa.length cA, .slice aB d.qb.length cB, .slice aC d.zc.length cC] 25) = w1 at *
  have HD : ∀ w', Below w.heap.size w w' → Hid (KcIn w' xa d.qa ∧ KcIn w' xb d.qb ∧ IntsIn w' xc d.zc ∧ DIn w' d aA aB aC) := fun w' hb => ⟨ra.below hb, rb.below hb, rc.below hb, hd.below hb⟩
  have hBw : w.heap.size ≤ w.heap.size := Nat.le_refl _
  clear hd ra rb rc
  generalize hBe : w.heap.size = B at HD hb0 c0 c1 c2 c3 c4 c5 c6 c7 ⊢
  rw [hBe] at hBw
  replace hBw : B ≤ w.heap.size := by omega
  have HBe : Hid (w.heap.size = B) := hBe
  clear hBe
  go_quiet (fail)
  go_wp2_with fail
  clear r0 r1 r2 r3 r4 c0 c1 c2 c3 c4
  have hbq : Below w1.heap.size w1 (w1.drewN nq) := below_drewN (Below.refl _ _) nq
  replace r5 := cell_below hbq r5
  replace r6 := cell_below hbq r6
  replace r7 := cell_below hbq r7
  replace c5 := cell_below hbq c5
  replace c6 := cell_below hbq c6
  replace c7 := cell_below hbq c7
  replace hb0 := below_drewN hb0 nq
  clear hbq
  generalize w1.drewN nq = w2 at *
  go_region_held3 (fun w' => w'.cell? ⟨pb, 5, none⟩ = some (.slice xa d.qa.length ka) ∧ w'.cell? ⟨pb, 6, none⟩ = some (.slice xb d.qb.length kb) ∧ w'.cell? ⟨pb, 7, none⟩ = some (.slice xc d.zc.length kc) ∧ w'.cell? ⟨B, 5, none⟩ = some (.slice aA d.qa.length cA) ∧ w'.cell? ⟨B, 6, none⟩ = some (.slice aB d.qb.length cB) ∧ w'.cell? ⟨B, 7, none⟩ = some (.slice aC d.zc.length cC) ∧ Below B w w')
    (first | exact ⟨r5, r6, r7, c5, c6, c7, hb0.drew⟩ | (go_split_ands; exact ⟨cell_below hbc (by assumption), cell_below hbc (by assumption), cell_below hbc (by assumption), cell_below hbc (by assumption), cell_below hbc (by assumption), cell_below hbc (by assumption), below_step hBw hbc (by assumption)⟩) | (go_split_ands; exact ⟨cell_al _ (by assumption), cell_al _ (by assumption), cell_al _ (by assumption), cell_al _ (by assumption), cell_al _ (by assumption), cell_al _ (by assumption), below_al hBw _ (by assumption)⟩))
    (first | (go_at_call_of 20 (Value.slice aA d.qa.length cA); refine (aeqkc_any xa aA _ _ d.qa _ hA ?_ ?_).mono ?_; (go_split_ands; exact (HD _ (by assumption)).out.1); (go_split_ands; exact (HD _ (by assumption)).out.2.2.2.ka); rintro e w3 ⟨rfl, hbc⟩; have hb3 := hbc) | (go_at_call_of 20 (Value.slice aB d.qb.length cB); refine (aeqkc_any xb aB _ _ d.qb _ hB ?_ ?_).mono ?_; (go_split_ands; exact (HD _ (by assumption)).out.2.1); (go_split_ands; exact (HD _ (by assumption)).out.2.2.2.kb); rintro e w4 ⟨rfl, hbc⟩; have hb4 := hbc))
  rename_i hHeld
  obtain ⟨-, -, h7, -, -, g7, hb5⟩ := hHeld
  clear r5 r6 r7 c5 c6 c7 hb0 hb3 hb4 hbc
  go_wp2_with fail
  go_quiet (fail)
  have hbq : Below w4.heap.size w4 (w4.drewN nq) := below_drewN (Below.refl _ _) nq
  replace h7 := cell_below hbq h7
  replace g7 := cell_below hbq g7
  replace hb5 := below_drewN hb5 nq
  clear hbq
  generalize w4.drewN nq = w5 at *
  go_wp2
  obtain ⟨-, -, HC, HDI⟩ := (HD _ hb5).out
  replace HDI := HDI.kc
  have hsz := hb5.size
  clear HD
  go_loopw [80] (fun i wr => ∃ k : Nat, k ≤ d.zc.length ∧ i = .int .i64 k ∧ wr = w5) (fun i _ => d.zc.length - (intOf i).toNat)
  case atStart => exact ⟨0, Nat.zero_le _, rfl, rfl⟩
  case round =>
    obtain ⟨k, hk, rfl, rfl⟩ := hrel
    by_cases hlt : k < d.zc.length
    · obtain ⟨b, off, hao, hbs, q0⟩ := HC k hlt
      obtain ⟨b', off', hxa, hbs', q1⟩ := HDI k hlt
      subst hao
      subst hxa
      have hki : (k : Int) < (d.zc.length : Int) := by omega
      clear HC HDI
      go_wp2
      go_roundw
      case rel => exact ⟨k + 1, by omega, by go_num, trivial⟩
      case measure => simp [intOf]; omega
    · clear HC HDI
      go_wp2
      go_ret
      exact ⟨rfl, by rw [HBe.out]; exact hb5⟩
end Go.Proofs.Ybulkawqg.A
