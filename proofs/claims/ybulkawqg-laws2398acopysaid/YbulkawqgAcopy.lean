/-
  copyFrom: behind it the one state holds what the other holds, in memory of its own.
-/
import Derived.Test.YbulkawqgAmem
namespace Go.Proofs.Ybulkawqg.A
open Go.RowKit

theorem Hid.intro {p : Prop} (h : p) : Hid p := h
theorem one_q4 (qs : List Quad) : ∀ u ∈ q4 qs, u.oneCell' = true := by
  intro u hu
  simp only [q4, List.mem_map] at hu
  obtain ⟨i, _, rfl⟩ := hu
  unfold qf qc
  split <;> rfl
theorem one_i64s (zs : List Int) : ∀ u ∈ i64s zs, u.oneCell' = true := by
  intro u hu
  simp only [i64s, List.mem_map] at hu
  obtain ⟨i, _, rfl⟩ := hu
  rfl
theorem PSt.below {w w' : World} {base pb : Nat} {d : Dat} {va vb vc : Value} (h : PSt w base pb d va vb vc) (hb : Below w.heap.size w w') : PSt w' base pb d va vb vc :=
  ⟨by rw [hb.block pb (lt_of_block h.blk)]; exact h.blk, h.low, own_later h.oa hb, own_later h.ob hb, own_later h.oc hb, h.far⟩
theorem cell_set_far {w : World} {b b' i j : Nat} {u v : Value} (hne : b ≠ b') (h : w.drew.cell? ⟨b, i, none⟩ = some v) : (w.setCell ⟨b', j, none⟩ u).drew.cell? ⟨b, i, none⟩ = some v :=
  Eq.trans (World.cell?_of_block (w := w) (w' := w.setCell ⟨b', j, none⟩ u) (Below.heap_setCell w _ u b hne)) h

set_option maxRecDepth 100000 in
set_option maxHeartbeats 1600000 in
theorem copy_any (o : Dat) (w0 : World) (b1 sp dp : Nat) (sa sb sc va vb vc : Value) (z0 z1 z2 z3 z4 : Int) (na nb nc : Nat) (xa xb xc : List Value) (w : World) (hs : PSt w0 b1 sp o sa sb sc) (hb : Below w0.heap.size w0 w)
    (hd : PG w w0.heap.size dp z0 z1 z2 z3 z4 va na xa vb nb xb vc nc xc) (hA : o.qa.length ≤ 1024) (hB : o.qb.length ≤ 1024) (hC : o.zc.length ≤ 1024) :
    Calls Yba.prog 10 #[.pointer (some ⟨dp, 0, none⟩), .pointer (some ⟨sp, 0, none⟩)] w fun e w' => (∃ u, e = .returned u) ∧ ∃ va vb vc, PSt w' w0.heap.size dp o va vb vc ∧ Below w0.heap.size w0 w' := by
  have HS : ∀ w', Below w0.heap.size w0 w' → Hid (PSt w' b1 sp o sa sb sc) := fun w' h => hs.below h
  obtain ⟨sxa, ska, rfl⟩ := own_shape hs.oa
  obtain ⟨sxb, skb, rfl⟩ := own_shape hs.ob
  obtain ⟨sxc, skc, rfl⟩ := own_shape hs.oc
  obtain ⟨dxa, dka, rfl⟩ := own_shape hd.oa
  obtain ⟨dxb, dkb, rfl⟩ := own_shape hd.ob
  obtain ⟨dxc, dkc, rfl⟩ := own_shape hd.oc
  have hne : sp ≠ dp := by
    have h1 := lt_of_block hs.blk
    have h2 := hd.low
    omega
  have hlow := hd.low
  clear hs
  generalize hBe : w0.heap.size = B at HS hb hd hlow ⊢
  have HBe : Hid (w0.heap.size = B) := hBe
  clear hBe
  have hs1 := (HS w hb).out.pg
  have s0 : w.drew.cell? ⟨sp, 0, none⟩ = some (.int .i64 o.p) := hs1.cell 0 _ rfl
  have s1 : w.drew.cell? ⟨sp, 1, none⟩ = some (.int .i64 o.j) := hs1.cell 1 _ rfl
  have s2 : w.drew.cell? ⟨sp, 2, none⟩ = some (.int .i64 o.run) := hs1.cell 2 _ rfl
  have s3 : w.drew.cell? ⟨sp, 3, none⟩ = some (.int .i64 o.lim) := hs1.cell 3 _ rfl
  have s4 : w.drew.cell? ⟨sp, 4, none⟩ = some (.int .i64 o.tie) := hs1.cell 4 _ rfl
  have d0 := hd.cell 0 _ rfl
  have d1 := hd.cell 1 _ rfl
  have d2 := hd.cell 2 _ rfl
  have d3 := hd.cell 3 _ rfl
  have d4 := hd.cell 4 _ rfl
  have f0 := hd.free 0
  have f1 := hd.free 1
  have f2 := hd.free 2
  have f3 := hd.free 3
  have f4 := hd.free 4
  have HD : Hid (PG w B dp z0 z1 z2 z3 z4 (.slice dxa na dka) na xa (.slice dxb nb dkb) nb xb (.slice dxc nc dkc) nc xc) := hd
  clear hs1 hd
  go_enter Yba.func10, Yba.ntmps10
  go_wp2_with fail
  go_region_held3 (fun w' => w'.cell? ⟨sp, 0, none⟩ = some (.int .i64 o.p) ∧ w'.cell? ⟨sp, 1, none⟩ = some (.int .i64 o.j) ∧ w'.cell? ⟨sp, 2, none⟩ = some (.int .i64 o.run) ∧ w'.cell? ⟨sp, 3, none⟩ = some (.int .i64 o.lim) ∧ w'.cell? ⟨sp, 4, none⟩ = some (.int .i64 o.tie))
    (first | (with_reducible exact ⟨s0, s1, s2, s3, s4⟩) | (go_split_ands; with_reducible exact ⟨cell_set_far hne (by assumption), cell_set_far hne (by assumption), cell_set_far hne (by assumption), cell_set_far hne (by assumption), cell_set_far hne (by assumption)⟩))
    (fail)
  clear s0 s1 s2 s3 s4 d0 d1 d2 d3 d4 f0 f1 f2 f3 f4
  have hN := (HD.out.put_int o.p o.j o.run o.lim o.tie).drew
  replace hb : Below B w0 (((((w.setCell ⟨dp, 0, none⟩ (.int .i64 o.p)).setCell ⟨dp, 1, none⟩ (.int .i64 o.j)).setCell ⟨dp, 2, none⟩ (.int .i64 o.run)).setCell ⟨dp, 3, none⟩ (.int .i64 o.lim)).setCell ⟨dp, 4, none⟩ (.int .i64 o.tie)).drew := (((((hb.setCell hlow _).setCell hlow _).setCell hlow _).setCell hlow _).setCell hlow _).drew
  clear HD
  have HD := Hid.intro hN
  clear hN
  generalize (((((w.setCell ⟨dp, 0, none⟩ (.int .i64 o.p)).setCell ⟨dp, 1, none⟩ (.int .i64 o.j)).setCell ⟨dp, 2, none⟩ (.int .i64 o.run)).setCell ⟨dp, 3, none⟩ (.int .i64 o.lim)).setCell ⟨dp, 4, none⟩ (.int .i64 o.tie)).drew = wA at *
  go_wp2_with fail
  obtain ⟨i37, hi37, hz0, hz1, hz2⟩ := info_parts info37
  have HI : Hid (Yba.prog.info? 37 = some i37 ∧ i37.zero = some (.agg #[.int .i64 0, .bool false, .string ⟨#[]⟩, .int .i64 0]) ∧ i37.size = 4 ∧ i37.bytes = 40) := ⟨hi37, hz0, hz1, hz2⟩
  clear hi37 hz0 hz1 hz2
  obtain ⟨i3, hi3, hy0, hy1, hy2⟩ := info_parts info3
  have HJ : Hid (Yba.prog.info? 3 = some i3 ∧ i3.zero = some (.int .i64 0) ∧ i3.size = 1 ∧ i3.bytes = 8) := ⟨hi3, hy0, hy1, hy2⟩
  clear hi3 hy0 hy1 hy2
  have HB0 : ∀ w', Below B w0 w' → Hid (B ≤ w'.heap.size) := fun w' h => by
    have := h.size
    have := HBe.out
    show _ ≤ _
    omega
  have hs1 := (HS wA hb).out.pg
  have s5 := hs1.cell 5 _ rfl
  have d5 := HD.out.cell 5 _ rfl
  have HF : ∀ w', wA.drew.grownBy w' (Value.slice dxa 0 dka).ownBlock → Hid (w'.cell? ⟨dp, 5, none⟩ = some (.slice dxa na dka) ∧ w'.frozen? ⟨dp, 5, none⟩ = false ∧ w'.cell? ⟨sp, 5, none⟩ = some (.slice sxa o.qa.length ska)) := fun w' hg => HD.out.at5 hs1.blk s5 hg
  have H0 : Hid (wA.drew.ownsRow B 37 4 (.slice dxa 0 dka) 0 []) := (cut0_own HD.out.oa).drew
  have H1 : Hid (wA.drew.ownsRow b1 37 4 (.slice sxa o.qa.length ska) o.qa.length (q4 o.qa)) := hs1.oa.drew
  have H2 : Hid (∀ u ∈ q4 o.qa, u.oneCell' = true) := one_q4 _
  have H3 : Hid (o.qa.length ≤ maxLen) := by show _ ≤ _; unfold maxLen; omega
  have H4 : Hid (B ≤ wA.drew.heap.size) := (HB0 wA hb).out
  have H5 : Hid (o.qa.length * 40 ≤ 140737488355328) := by show _ ≤ _; omega
  clear hs1
  go_region_law (refine step_append_own rfl (.tmp 44) (.tmp 48) 31 rfl B b1 37 i37 _ 4 40 Yba.underlying31 HI.out.1 HI.out.2.1 HI.out.2.2.1 HI.out.2.2.2 rfl (by decide) (.slice dxa 0 dka) (.slice sxa o.qa.length ska) o.qa.length (q4 o.qa) (by rfl) (by rfl) H0.out H1.out H2.out H3.out H5.out H4.out ?_; intro g5 c5 w1 hown hgrow hat; have hc5 := (HF _ hgrow).out.1; have hf5 := (HF _ hgrow).out.2.1)
  all_goals
    have hN := HD.out.step5 hb (HB0 wA hb).out hgrow hown hat
    clear HD hb hgrow hown hat HF H0 H1 H2 H3 H4 H5 hc5 hf5 s5 d5
    have hb := hN.2
    have HD := Hid.intro hN.1
    clear hN
    generalize w1.setCell _ _ = w2 at *
    clear w1
    go_wp2_with fail
    have hs1 := (HS w2 hb).out.pg
    have s6 := hs1.cell 6 _ rfl
    have d6 := HD.out.cell 6 _ rfl
    have HF : ∀ w', w2.drew.grownBy w' (Value.slice dxb 0 dkb).ownBlock → Hid (w'.cell? ⟨dp, 6, none⟩ = some (.slice dxb nb dkb) ∧ w'.frozen? ⟨dp, 6, none⟩ = false ∧ w'.cell? ⟨sp, 6, none⟩ = some (.slice sxb o.qb.length skb)) := fun w' hg => HD.out.at6 hs1.blk s6 hg
    have H0 : Hid (w2.drew.ownsRow B 37 4 (.slice dxb 0 dkb) 0 []) := (cut0_own HD.out.ob).drew
    have H1 : Hid (w2.drew.ownsRow b1 37 4 (.slice sxb o.qb.length skb) o.qb.length (q4 o.qb)) := hs1.ob.drew
    have H2 : Hid (∀ u ∈ q4 o.qb, u.oneCell' = true) := one_q4 _
    have H3 : Hid (o.qb.length ≤ maxLen) := by show _ ≤ _; unfold maxLen; omega
    have H4 : Hid (B ≤ w2.drew.heap.size) := (HB0 w2 hb).out
    have H5 : Hid (o.qb.length * 40 ≤ 140737488355328) := by show _ ≤ _; omega
    clear hs1
    go_region_law (refine step_append_own rfl (.tmp 57) (.tmp 61) 31 rfl B b1 37 i37 _ 4 40 Yba.underlying31 HI.out.1 HI.out.2.1 HI.out.2.2.1 HI.out.2.2.2 rfl (by decide) (.slice dxb 0 dkb) (.slice sxb o.qb.length skb) o.qb.length (q4 o.qb) (by rfl) (by rfl) H0.out H1.out H2.out H3.out H5.out H4.out ?_; intro g6 c6 w1 hown hgrow hat; have hc6 := (HF _ hgrow).out.1; have hf6 := (HF _ hgrow).out.2.1)
    all_goals
      have hN := HD.out.step6 hb (HB0 w2 hb).out hgrow hown hat
      clear HD hb hgrow hown hat HF H0 H1 H2 H3 H4 H5 hc6 hf6 s6 d6
      have hb := hN.2
      have HD := Hid.intro hN.1
      clear hN
      generalize w1.setCell _ _ = w3 at *
      clear w1
      go_wp2_with fail
      have hs1 := (HS w3 hb).out.pg
      have s7 := hs1.cell 7 _ rfl
      have d7 := HD.out.cell 7 _ rfl
      have HF : ∀ w', w3.drew.grownBy w' (Value.slice dxc 0 dkc).ownBlock → Hid (w'.cell? ⟨dp, 7, none⟩ = some (.slice dxc nc dkc) ∧ w'.frozen? ⟨dp, 7, none⟩ = false ∧ w'.cell? ⟨sp, 7, none⟩ = some (.slice sxc o.zc.length skc)) := fun w' hg => HD.out.at7 hs1.blk s7 hg
      have H0 : Hid (w3.drew.ownsRow B 3 1 (.slice dxc 0 dkc) 0 []) := (cut0_own HD.out.oc).drew
      have H1 : Hid (w3.drew.ownsRow b1 3 1 (.slice sxc o.zc.length skc) o.zc.length (i64s o.zc)) := hs1.oc.drew
      have H2 : Hid (∀ u ∈ i64s o.zc, u.oneCell' = true) := one_i64s _
      have H3 : Hid (o.zc.length ≤ maxLen) := by show _ ≤ _; unfold maxLen; omega
      have H4 : Hid (B ≤ w3.drew.heap.size) := (HB0 w3 hb).out
      have H5 : Hid (o.zc.length * 8 ≤ 140737488355328) := by show _ ≤ _; omega
      clear hs1
      go_region_law (refine step_append_own rfl (.tmp 70) (.tmp 74) 23 rfl B b1 3 i3 _ 1 8 Yba.underlying23 HJ.out.1 HJ.out.2.1 HJ.out.2.2.1 HJ.out.2.2.2 rfl (by decide) (.slice dxc 0 dkc) (.slice sxc o.zc.length skc) o.zc.length (i64s o.zc) (by rfl) (by rfl) H0.out H1.out H2.out H3.out H5.out H4.out ?_; intro g7 c7 w1 hown hgrow hat; have hc7 := (HF _ hgrow).out.1; have hf7 := (HF _ hgrow).out.2.1)
      all_goals
        have hN := HD.out.step7 hb (HB0 w3 hb).out hgrow hown hat
        clear HD hb hgrow hown hat HF H0 H1 H2 H3 H4 H5 hc7 hf7 s7 d7
        have hb := hN.2
        have HD := Hid.intro hN.1
        clear hN
        generalize w1.setCell _ _ = w4 at *
        clear w1
        go_wp2
        exact ⟨rfl, _, results_none rfl _ _ _, ⟨_, rfl⟩, _, _, _, HD.out.pst, hb⟩
end Go.Proofs.Ybulkawqg.A
