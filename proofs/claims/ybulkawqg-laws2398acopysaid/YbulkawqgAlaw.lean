/-
  LawS2398ACopy: the walk.
-/
import Derived.Test.YbulkawqgAset
import Derived.Test.YbulkawqgAbig
import Derived.Test.YbulkawqgAcopy
namespace Go.Proofs.Ybulkawqg.A
open Go.RowKit

set_option maxRecDepth 100000 in
set_option maxHeartbeats 3200000 in
theorem acopy_any (o s : Dat) (aA aB aC eA eB eC : Option Addr) (cA cB cC fA fB fC : Nat) (w : World) (hdo : DIn w o aA aB aC) (hds : DIn w s eA eB eC) (hqa : Bounded o.qa) (hqb : Bounded o.qb) :
    Calls Yba.prog 3 #[.agg #[.int .i64 o.p, .int .i64 o.j, .int .i64 o.run, .int .i64 o.lim, .int .i64 o.tie, .slice aA o.qa.length cA, .slice aB o.qb.length cB, .slice aC o.zc.length cC], .agg #[.int .i64 s.p, .int .i64 s.j, .int .i64 s.run, .int .i64 s.lim, .int .i64 s.tie, .slice eA s.qa.length fA, .slice eB s.qb.length fB, .slice eC s.zc.length fC]] w fun e w' => e = .returned (.bool true) ∧ Below w.heap.size w w' := by
  go_enter Yba.func3, Yba.ntmps3
  go_wp2_with fail
  have hb0 : Below w.heap.size w ((w.alloc (.cells #[.int .i64 o.p, .int .i64 o.j, .int .i64 o.run, .int .i64 o.lim, .int .i64 o.tie, .slice aA o.qa.length cA, .slice aB o.qb.length cB, .slice aC o.zc.length cC] 25)).alloc (.cells #[.int .i64 s.p, .int .i64 s.j, .int .i64 s.run, .int .i64 s.lim, .int .i64 s.tie, .slice eA s.qa.length fA, .slice eB s.qb.length fB, .slice eC s.zc.length fC] 25)) := ((Below.refl _ _).alloc (Nat.le_refl _) _).alloc (by simp) _
  have HO : Hid (Boxed ((w.alloc (.cells #[.int .i64 o.p, .int .i64 o.j, .int .i64 o.run, .int .i64 o.lim, .int .i64 o.tie, .slice aA o.qa.length cA, .slice aB o.qb.length cB, .slice aC o.zc.length cC] 25)).alloc (.cells #[.int .i64 s.p, .int .i64 s.j, .int .i64 s.run, .int .i64 s.lim, .int .i64 s.tie, .slice eA s.qa.length fA, .slice eB s.qb.length fB, .slice eC s.zc.length fC] 25)) w.heap.size #[.int .i64 o.p, .int .i64 o.j, .int .i64 o.run, .int .i64 o.lim, .int .i64 o.tie, .slice aA o.qa.length cA, .slice aB o.qb.length cB, .slice aC o.zc.length cC]) := by
    show _ = _
    rw [Below.heap_alloc _ _ _ (by simp)]
    exact heap_alloc_new w _
  have HT : Hid (Boxed ((w.alloc (.cells #[.int .i64 o.p, .int .i64 o.j, .int .i64 o.run, .int .i64 o.lim, .int .i64 o.tie, .slice aA o.qa.length cA, .slice aB o.qb.length cB, .slice aC o.zc.length cC] 25)).alloc (.cells #[.int .i64 s.p, .int .i64 s.j, .int .i64 s.run, .int .i64 s.lim, .int .i64 s.tie, .slice eA s.qa.length fA, .slice eB s.qb.length fB, .slice eC s.zc.length fC] 25)) (w.heap.size + 1) #[.int .i64 s.p, .int .i64 s.j, .int .i64 s.run, .int .i64 s.lim, .int .i64 s.tie, .slice eA s.qa.length fA, .slice eB s.qb.length fB, .slice eC s.zc.length fC]) := by
    have := heap_alloc_new (w.alloc (.cells #[.int .i64 o.p, .int .i64 o.j, .int .i64 o.run, .int .i64 o.lim, .int .i64 o.tie, .slice aA o.qa.length cA, .slice aB o.qb.length cB, .slice aC o.zc.length cC] 25)) (.cells #[.int .i64 s.p, .int .i64 s.j, .int .i64 s.run, .int .i64 s.lim, .int .i64 s.tie, .slice eA s.qa.length fA, .slice eB s.qb.length fB, .slice eC s.zc.length fC] 25)
    have e : (w.alloc (.cells #[.int .i64 o.p, .int .i64 o.j, .int .i64 o.run, .int .i64 o.lim, .int .i64 o.tie, .slice aA o.qa.length cA, .slice aB o.qb.length cB, .slice aC o.zc.length cC] 25)).heap.size = w.heap.size + 1 := by simp
    rw [e] at this
    exact this
  have hz0 : ((w.alloc (.cells #[.int .i64 o.p, .int .i64 o.j, .int .i64 o.run, .int .i64 o.lim, .int .i64 o.tie, .slice aA o.qa.length cA, .slice aB o.qb.length cB, .slice aC o.zc.length cC] 25)).alloc (.cells #[.int .i64 s.p, .int .i64 s.j, .int .i64 s.run, .int .i64 s.lim, .int .i64 s.tie, .slice eA s.qa.length fA, .slice eB s.qb.length fB, .slice eC s.zc.length fC] 25)).heap.size = w.heap.size + 2 := by simp
  generalize (w.alloc (.cells #[.int .i64 o.p, .int .i64 o.j, .int .i64 o.run, .int .i64 o.lim, .int .i64 o.tie, .slice aA o.qa.length cA, .slice aB o.qb.length cB, .slice aC o.zc.length cC] 25)).alloc (.cells #[.int .i64 s.p, .int .i64 s.j, .int .i64 s.run, .int .i64 s.lim, .int .i64 s.tie, .slice eA s.qa.length fA, .slice eB s.qb.length fB, .slice eC s.zc.length fC] 25) = w1 at *
  refine (abig_any _ _ _ _ _ _ _ _ _ _ _ _ _ _ w1).mono ?_
  rintro e w2 ⟨b1, rfl, hbig1, bel⟩
  have hO2 := Hid.intro (HO.out.below bel (by omega))
  have hT2 := Hid.intro (HT.out.below bel (by omega))
  have hb2 : Below w.heap.size w w2 := hb0.trans (bel.mono (by omega))
  have hz2 := bel.size
  clear HO HT hb0 bel
  have HB1 := Hid.intro hbig1
  clear hbig1
  replace hz2 : w.heap.size + 2 ≤ w2.heap.size := by omega
  clear hz0
  cases b1 with
  | true =>
    go_wp2_with fail
    go_ret
    exact ⟨rfl, hb2⟩
  | false =>
    have c0 : w2.cell? ⟨w.heap.size + 1, 0, none⟩ = some (.int .i64 s.p) := hT2.out.cell 0 _ rfl
    have c1 : w2.cell? ⟨w.heap.size + 1, 1, none⟩ = some (.int .i64 s.j) := hT2.out.cell 1 _ rfl
    have c2 : w2.cell? ⟨w.heap.size + 1, 2, none⟩ = some (.int .i64 s.run) := hT2.out.cell 2 _ rfl
    have c3 : w2.cell? ⟨w.heap.size + 1, 3, none⟩ = some (.int .i64 s.lim) := hT2.out.cell 3 _ rfl
    have c4 : w2.cell? ⟨w.heap.size + 1, 4, none⟩ = some (.int .i64 s.tie) := hT2.out.cell 4 _ rfl
    have c5 : w2.cell? ⟨w.heap.size + 1, 5, none⟩ = some (.slice eA s.qa.length fA) := hT2.out.cell 5 _ rfl
    have c6 : w2.cell? ⟨w.heap.size + 1, 6, none⟩ = some (.slice eB s.qb.length fB) := hT2.out.cell 6 _ rfl
    have c7 : w2.cell? ⟨w.heap.size + 1, 7, none⟩ = some (.slice eC s.zc.length fC) := hT2.out.cell 7 _ rfl
    go_wp2_with fail
    clear c0 c1 c2 c3 c4 c5 c6 c7
    refine (abig_any _ _ _ _ _ _ _ _ _ _ _ _ _ _ w2).mono ?_
    rintro e w3 ⟨b2, rfl, hbig2, bel⟩
    have hO3 := Hid.intro (hO2.out.below bel (by omega))
    have hT3 := Hid.intro (hT2.out.below bel (by omega))
    have hb3 : Below w.heap.size w w3 := hb2.trans (bel.mono (by omega))
    have hz3 := bel.size
    clear hO2 hT2 bel hb2
    have HB2 := Hid.intro hbig2
    clear hbig2
    cases b2 with
    | true =>
      go_wp2_with fail
      go_ret
      exact ⟨rfl, hb3⟩
    | false =>
      have hbig1 := HB1.out
      have hbig2 := HB2.out
      clear HB1 HB2
      have hoA : o.qa.length ≤ 1024 := by simp at hbig1; omega
      have hoB : o.qb.length ≤ 1024 := by simp at hbig1; omega
      have hoC : o.zc.length ≤ 1024 := by simp at hbig1; omega
      have hsA : s.qa.length ≤ 1024 := by simp at hbig2; omega
      have hsB : s.qb.length ≤ 1024 := by simp at hbig2; omega
      have hsC : s.zc.length ≤ 1024 := by simp at hbig2; omega
      clear hbig1 hbig2
      have c0 : w3.cell? ⟨w.heap.size, 0, none⟩ = some (.int .i64 o.p) := hO3.out.cell 0 _ rfl
      have c1 : w3.cell? ⟨w.heap.size, 1, none⟩ = some (.int .i64 o.j) := hO3.out.cell 1 _ rfl
      have c2 : w3.cell? ⟨w.heap.size, 2, none⟩ = some (.int .i64 o.run) := hO3.out.cell 2 _ rfl
      have c3 : w3.cell? ⟨w.heap.size, 3, none⟩ = some (.int .i64 o.lim) := hO3.out.cell 3 _ rfl
      have c4 : w3.cell? ⟨w.heap.size, 4, none⟩ = some (.int .i64 o.tie) := hO3.out.cell 4 _ rfl
      have c5 : w3.cell? ⟨w.heap.size, 5, none⟩ = some (.slice aA o.qa.length cA) := hO3.out.cell 5 _ rfl
      have c6 : w3.cell? ⟨w.heap.size, 6, none⟩ = some (.slice aB o.qb.length cB) := hO3.out.cell 6 _ rfl
      have c7 : w3.cell? ⟨w.heap.size, 7, none⟩ = some (.slice aC o.zc.length cC) := hO3.out.cell 7 _ rfl
      go_wp2_with fail
      clear c0 c1 c2 c3 c4 c5 c6 c7
      refine (abuild_any o aA aB aC _ _ _ w3 (hdo.below hb3) hoA hoB hoC).mono ?_
      rintro e w4 ⟨sp, sa, sb, sc, rfl, hps, bel⟩
      have hO4 := Hid.intro (hO3.out.below bel (by omega))
      have hT4 := Hid.intro (hT3.out.below bel (by omega))
      have hb4 : Below w.heap.size w w4 := hb3.trans (bel.mono (by omega))
      have hz4 := bel.size
      have HPS := Hid.intro hps
      clear hO3 hT3 bel hb3 hps
      have c0 : w4.cell? ⟨w.heap.size + 1, 0, none⟩ = some (.int .i64 s.p) := hT4.out.cell 0 _ rfl
      have c1 : w4.cell? ⟨w.heap.size + 1, 1, none⟩ = some (.int .i64 s.j) := hT4.out.cell 1 _ rfl
      have c2 : w4.cell? ⟨w.heap.size + 1, 2, none⟩ = some (.int .i64 s.run) := hT4.out.cell 2 _ rfl
      have c3 : w4.cell? ⟨w.heap.size + 1, 3, none⟩ = some (.int .i64 s.lim) := hT4.out.cell 3 _ rfl
      have c4 : w4.cell? ⟨w.heap.size + 1, 4, none⟩ = some (.int .i64 s.tie) := hT4.out.cell 4 _ rfl
      have c5 : w4.cell? ⟨w.heap.size + 1, 5, none⟩ = some (.slice eA s.qa.length fA) := hT4.out.cell 5 _ rfl
      have c6 : w4.cell? ⟨w.heap.size + 1, 6, none⟩ = some (.slice eB s.qb.length fB) := hT4.out.cell 6 _ rfl
      have c7 : w4.cell? ⟨w.heap.size + 1, 7, none⟩ = some (.slice eC s.zc.length fC) := hT4.out.cell 7 _ rfl
      go_wp2_with fail
      clear c0 c1 c2 c3 c4 c5 c6 c7
      refine (abuild_any s eA eB eC _ _ _ w4 (hds.below hb4) hsA hsB hsC).mono ?_
      rintro e w5 ⟨dp, da, db, dc, rfl, hpd, bel⟩
      have hb5 := bel
      have HPD := Hid.intro hpd.pg
      clear bel hT4 hpd
      go_wp2_with fail
      refine (copy_any o w4 _ sp dp sa sb sc da db dc _ _ _ _ _ _ _ _ _ _ _ w5 HPS.out hb5 HPD.out hoA hoB hoC).mono ?_
      rintro e w6 ⟨⟨u, rfl⟩, ta, tb, tc, hpd, hb6⟩
      clear HPD hb5
      have hO6 := Hid.intro (hO4.out.below hb6 (by omega))
      have HPD := Hid.intro hpd
      clear hpd
      have c0 : w6.cell? ⟨w.heap.size, 0, none⟩ = some (.int .i64 o.p) := hO6.out.cell 0 _ rfl
      have c1 : w6.cell? ⟨w.heap.size, 1, none⟩ = some (.int .i64 o.j) := hO6.out.cell 1 _ rfl
      have c2 : w6.cell? ⟨w.heap.size, 2, none⟩ = some (.int .i64 o.run) := hO6.out.cell 2 _ rfl
      have c3 : w6.cell? ⟨w.heap.size, 3, none⟩ = some (.int .i64 o.lim) := hO6.out.cell 3 _ rfl
      have c4 : w6.cell? ⟨w.heap.size, 4, none⟩ = some (.int .i64 o.tie) := hO6.out.cell 4 _ rfl
      have c5 : w6.cell? ⟨w.heap.size, 5, none⟩ = some (.slice aA o.qa.length cA) := hO6.out.cell 5 _ rfl
      have c6 : w6.cell? ⟨w.heap.size, 6, none⟩ = some (.slice aB o.qb.length cB) := hO6.out.cell 6 _ rfl
      have c7 : w6.cell? ⟨w.heap.size, 7, none⟩ = some (.slice aC o.zc.length cC) := hO6.out.cell 7 _ rfl
      go_wp2_with fail
      clear c0 c1 c2 c3 c4 c5 c6 c7
      obtain ⟨xa, xb, xc, ka, kb, kc, hrd⟩ := HPD.out.reads
      refine (aeq_any o dp xa xb xc aA aB aC ka kb kc _ _ _ w6 hrd (hdo.below (hb4.trans (hb6.mono (by omega)))) hoA hoB hoC).mono ?_
      rintro e w7 ⟨rfl, bel⟩
      clear hrd hO6
      have hb7 : Below w4.heap.size w4 w7 := hb6.trans (bel.mono hb6.size)
      have HPD7 := Hid.intro (HPD.out.below bel)
      have hO7 := Hid.intro (hO4.out.below hb7 (by omega))
      clear HPD hb6 bel xa xb xc ka kb kc
      have c0 : w7.cell? ⟨w.heap.size, 0, none⟩ = some (.int .i64 o.p) := hO7.out.cell 0 _ rfl
      have c1 : w7.cell? ⟨w.heap.size, 1, none⟩ = some (.int .i64 o.j) := hO7.out.cell 1 _ rfl
      have c2 : w7.cell? ⟨w.heap.size, 2, none⟩ = some (.int .i64 o.run) := hO7.out.cell 2 _ rfl
      have c3 : w7.cell? ⟨w.heap.size, 3, none⟩ = some (.int .i64 o.lim) := hO7.out.cell 3 _ rfl
      have c4 : w7.cell? ⟨w.heap.size, 4, none⟩ = some (.int .i64 o.tie) := hO7.out.cell 4 _ rfl
      have c5 : w7.cell? ⟨w.heap.size, 5, none⟩ = some (.slice aA o.qa.length cA) := hO7.out.cell 5 _ rfl
      have c6 : w7.cell? ⟨w.heap.size, 6, none⟩ = some (.slice aB o.qb.length cB) := hO7.out.cell 6 _ rfl
      have c7 : w7.cell? ⟨w.heap.size, 7, none⟩ = some (.slice aC o.zc.length cC) := hO7.out.cell 7 _ rfl
      go_wp2_with fail
      clear c0 c1 c2 c3 c4 c5 c6 c7
      obtain ⟨xa, xb, xc, ka, kb, kc, hrd⟩ := (HPS.out.below hb7).reads
      refine (aeq_any o sp xa xb xc aA aB aC ka kb kc _ _ _ w7 hrd (hdo.below (hb4.trans (hb7.mono (by omega)))) hoA hoB hoC).mono ?_
      rintro e w8 ⟨rfl, bel⟩
      clear hrd hO7
      have hb8 : Below w4.heap.size w4 w8 := hb7.trans (bel.mono hb7.size)
      have HPD8 := Hid.intro (HPD7.out.below bel)
      clear HPD7 hb7 bel xa xb xc ka kb kc
      obtain ⟨xa, ka, rfl⟩ := own_shape HPD8.out.oa
      obtain ⟨xb, kb, rfl⟩ := own_shape HPD8.out.ob
      obtain ⟨xc, kc, rfl⟩ := own_shape HPD8.out.oc
      have HG := Hid.intro HPD8.out.pg
      clear HPD8
      generalize hBe : w4.heap.size = B at HG hb8 ⊢
      have HBe := Hid.intro hBe
      clear hBe
      have c5 : w8.cell? ⟨dp, 5, none⟩ = some (.slice xa o.qa.length ka) := HG.out.cell 5 _ rfl
      go_wp2_with fail
      clear c5
      go_loopw [38] (fun i wr => ∃ (k : Nat) (xs : List Value), k ≤ o.qa.length ∧ i = .int .i64 k ∧ Hid (PG wr B dp o.p o.j o.run o.lim o.tie (.slice xa o.qa.length ka) o.qa.length xs (.slice xb o.qb.length kb) o.qb.length (q4 o.qb) (.slice xc o.zc.length kc) o.zc.length (i64s o.zc)) ∧ Hid (FromK o.qa k xs) ∧ Below B w4 wr) (fun i _ => o.qa.length - (intOf i).toNat)
      case atStart => exact ⟨0, _, Nat.zero_le _, rfl, HG, fromK_start _, hb8⟩
      case round =>
        clear HG hb8
        obtain ⟨k, xs, hk, rfl, HG, HF, hb9⟩ := hrel
        by_cases hlt : k < o.qa.length
        · obtain ⟨g, rfl, hgB, hgl, q3, q2, hfz⟩ := round_kc HG.out.oa HF.out hlt
          have c5 : wr.cell? ⟨dp, 5, none⟩ = some (.slice (some ⟨g, 0, none⟩) o.qa.length ka) := HG.out.cell 5 _ rfl
          have f3 := hfz (k * 4 + 3)
          have f2 := hfz (k * 4 + 2)
          have hne : dp ≠ g := fun e => own_blk HG.out.oa HG.out.blk (by decide) (by rw [e]; rfl)
          have hst := hqa k
          have hki : (k : Int) < (o.qa.length : Int) := by omega
          generalize o.qa.getD k quad0 = q at *
          obtain ⟨z, bo, st, m⟩ := q
          simp only at q3 q2 hst
          have hadd := fun wx => run_string_add_sum (P := Yba.prog) wx st ⟨#[120]⟩ (by show _ + 1 ≤ _; omega)
          clear hfz hst
          go_wp2
          go_roundw
          case rel => exact ⟨k + 1, _, by omega, by go_num, (HG.out.setA (k * 4 + 3) _).setA (k * 4 + 2) _, HF.out.next _ _, (hb9.setCell hgB _).setCell hgB _⟩
          case measure => simp [intOf]; omega
        · have c6 : wr.cell? ⟨dp, 6, none⟩ = some (.slice xb o.qb.length kb) := HG.out.cell 6 _ rfl
          clear HF
          go_wp2_with fail
          clear c6 hlt hk
          have hb8 := hb9
          clear hb9
          go_loopw [71] (fun i wr => ∃ (k : Nat) (ys : List Value), k ≤ o.qb.length ∧ i = .int .i64 k ∧ Hid (PG wr B dp o.p o.j o.run o.lim o.tie (.slice xa o.qa.length ka) o.qa.length xs (.slice xb o.qb.length kb) o.qb.length ys (.slice xc o.zc.length kc) o.zc.length (i64s o.zc)) ∧ Hid (FromK o.qb k ys) ∧ Below B w4 wr) (fun i _ => o.qb.length - (intOf i).toNat)
          case atStart => exact ⟨0, _, Nat.zero_le _, rfl, HG, fromK_start _, hb8⟩
          case round =>
            clear HG hb8
            obtain ⟨k, ys, hk, rfl, HG, HF, hb9⟩ := hrel
            by_cases hlt : k < o.qb.length
            · obtain ⟨g, rfl, hgB, hgl, q3, q2, hfz⟩ := round_kc HG.out.ob HF.out hlt
              have c5 : wr.cell? ⟨dp, 6, none⟩ = some (.slice (some ⟨g, 0, none⟩) o.qb.length kb) := HG.out.cell 6 _ rfl
              have f3 := hfz (k * 4 + 3)
              have f2 := hfz (k * 4 + 2)
              have hne : dp ≠ g := fun e => own_blk HG.out.ob HG.out.blk (by decide) (by rw [e]; rfl)
              have hst := hqb k
              have hki : (k : Int) < (o.qb.length : Int) := by omega
              generalize o.qb.getD k quad0 = q at *
              obtain ⟨z, bo, st, m⟩ := q
              simp only at q3 q2 hst
              have hadd := fun wx => run_string_add_sum (P := Yba.prog) wx st ⟨#[120]⟩ (by show _ + 1 ≤ _; omega)
              clear hfz hst
              go_wp2
              go_roundw
              case rel => exact ⟨k + 1, _, by omega, by go_num, (HG.out.setB (k * 4 + 3) _).setB (k * 4 + 2) _, HF.out.next _ _, (hb9.setCell hgB _).setCell hgB _⟩
              case measure => simp [intOf]; omega
            · have c7 : wr.cell? ⟨dp, 7, none⟩ = some (.slice xc o.zc.length kc) := HG.out.cell 7 _ rfl
              clear HF
              go_wp2_with fail
              clear c7 hlt hk
              have hb8 := hb9
              clear hb9
              go_loopw [104] (fun i wr => ∃ (k : Nat) (zs : List Value), k ≤ o.zc.length ∧ i = .int .i64 k ∧ Hid (PG wr B dp o.p o.j o.run o.lim o.tie (.slice xa o.qa.length ka) o.qa.length xs (.slice xb o.qb.length kb) o.qb.length ys (.slice xc o.zc.length kc) o.zc.length zs) ∧ Hid (FromI o.zc k zs) ∧ Below B w4 wr) (fun i _ => o.zc.length - (intOf i).toNat)
              case atStart => exact ⟨0, _, Nat.zero_le _, rfl, HG, fromI_start _, hb8⟩
              case round =>
                clear HG hb8
                obtain ⟨k, zs, hk, rfl, HG, HF, hb9⟩ := hrel
                by_cases hlt : k < o.zc.length
                · obtain ⟨g, rfl, hgB, hgl, q3, hfz⟩ := round_int HG.out.oc HF.out hlt
                  have c5 : wr.cell? ⟨dp, 7, none⟩ = some (.slice (some ⟨g, 0, none⟩) o.zc.length kc) := HG.out.cell 7 _ rfl
                  have f3 := hfz k
                  have hne : dp ≠ g := fun e => own_blk HG.out.oc HG.out.blk (by decide) (by rw [e]; rfl)
                  have hki : (k : Int) < (o.zc.length : Int) := by omega
                  generalize o.zc.getD k 0 = q at *
                  clear hfz
                  go_wp2
                  go_roundw
                  case rel => exact ⟨k + 1, _, by omega, by go_num, HG.out.setC k _, HF.out.next _, hb9.setCell hgB _⟩
                  case measure => simp [intOf]; omega
                · have hbw : Below w4.heap.size w4 wr := by rw [HBe.out]; exact hb9
                  have hO9 := Hid.intro (hO4.out.below hbw (by omega))
                  have c0 : wr.cell? ⟨w.heap.size, 0, none⟩ = some (.int .i64 o.p) := hO9.out.cell 0 _ rfl
                  have c1 : wr.cell? ⟨w.heap.size, 1, none⟩ = some (.int .i64 o.j) := hO9.out.cell 1 _ rfl
                  have c2 : wr.cell? ⟨w.heap.size, 2, none⟩ = some (.int .i64 o.run) := hO9.out.cell 2 _ rfl
                  have c3 : wr.cell? ⟨w.heap.size, 3, none⟩ = some (.int .i64 o.lim) := hO9.out.cell 3 _ rfl
                  have c4 : wr.cell? ⟨w.heap.size, 4, none⟩ = some (.int .i64 o.tie) := hO9.out.cell 4 _ rfl
                  have c5 : wr.cell? ⟨w.heap.size, 5, none⟩ = some (.slice aA o.qa.length cA) := hO9.out.cell 5 _ rfl
                  have c6 : wr.cell? ⟨w.heap.size, 6, none⟩ = some (.slice aB o.qb.length cB) := hO9.out.cell 6 _ rfl
                  have c7 : wr.cell? ⟨w.heap.size, 7, none⟩ = some (.slice aC o.zc.length cC) := hO9.out.cell 7 _ rfl
                  clear HF HG
                  go_wp2_with fail
                  clear c0 c1 c2 c3 c4 c5 c6 c7
                  obtain ⟨xa', xb', xc', ka', kb', kc', hrd⟩ := (HPS.out.below hbw).reads
                  refine (aeq_any o sp xa' xb' xc' aA aB aC ka' kb' kc' _ _ _ wr hrd (hdo.below (hb4.trans (hbw.mono (by omega)))) hoA hoB hoC).mono ?_
                  rintro e w10 ⟨rfl, bel⟩
                  have hb10 : Below w.heap.size w w10 := (hb4.trans (hbw.mono (by omega))).trans (bel.mono (by have := hb4.size; have := hbw.size; omega))
                  clear hrd bel
                  go_wp2_with fail
                  go_ret
                  exact ⟨rfl, hb10⟩
end Go.Proofs.Ybulkawqg.A
