/-
  zzs2398abuild: a state in new memory.
-/
import Derived.Test.YbulkawqgAkinds
namespace Go.Proofs.Ybulkawqg.A
open Go.RowKit

/-- What a state holds. -/
structure Dat where
  p : Int
  j : Int
  run : Int
  lim : Int
  tie : Int
  qa : List Quad
  qb : List Quad
  zc : List Int

/-- The argument as it came in: its three slices. -/
structure DIn (w : World) (d : Dat) (aA aB aC : Option Addr) : Prop where
  ka : KcIn w aA d.qa
  kb : KcIn w aB d.qb
  kc : IntsIn w aC d.zc
  na : aA = none → d.qa.length = 0
  nb : aB = none → d.qb.length = 0
  nc : aC = none → d.zc.length = 0

theorem KcIn.below {w w' : World} {ao : Option Addr} {qs : List Quad} (h : KcIn w ao qs) (hb : Below w.heap.size w w') : KcIn w' ao qs := fun j hj => by
  obtain ⟨b, off, e, hlt, c0, c1, c2, c3⟩ := h j hj
  exact ⟨b, off, e, Nat.lt_of_lt_of_le hlt hb.size, (hb.cell (p := ⟨b, _, none⟩) hlt).trans c0, (hb.cell (p := ⟨b, _, none⟩) hlt).trans c1, (hb.cell (p := ⟨b, _, none⟩) hlt).trans c2, (hb.cell (p := ⟨b, _, none⟩) hlt).trans c3⟩
theorem IntsIn.below {w w' : World} {ao : Option Addr} {zs : List Int} (h : IntsIn w ao zs) (hb : Below w.heap.size w w') : IntsIn w' ao zs := fun j hj => by
  obtain ⟨b, off, e, hlt, c0⟩ := h j hj
  exact ⟨b, off, e, Nat.lt_of_lt_of_le hlt hb.size, (hb.cell (p := ⟨b, _, none⟩) hlt).trans c0⟩
theorem DIn.below {w w' : World} {d : Dat} {aA aB aC : Option Addr} (h : DIn w d aA aB aC) (hb : Below w.heap.size w w') : DIn w' d aA aB aC :=
  ⟨h.ka.below hb, h.kb.below hb, h.kc.below hb, h.na, h.nb, h.nc⟩

/-- A state in memory of the call's own. -/
structure PSt (w : World) (base pb : Nat) (d : Dat) (va vb vc : Value) : Prop where
  blk : w.heap[pb]? = some (.cells #[.int .i64 d.p, .int .i64 d.j, .int .i64 d.run, .int .i64 d.lim, .int .i64 d.tie, va, vb, vc] 33 (0, 0))
  low : base ≤ pb
  oa : w.ownsRow base 37 4 va d.qa.length (q4 d.qa)
  ob : w.ownsRow base 37 4 vb d.qb.length (q4 d.qb)
  oc : w.ownsRow base 3 1 vc d.zc.length (i64s d.zc)
  far : va.ownBlock = none ∨ va.ownBlock ≠ vb.ownBlock

theorem cell_below {wa wb : World} (hb : Below wa.heap.size wa wb) {a : Addr} {v : Value} (h : wa.cell? a = some v) : wb.cell? a = some v :=
  (hb.cell (World.block_lt_of_cell? wa _ h)).trans h

theorem below_step {B : Nat} {w wa wb : World} (hB : B ≤ w.heap.size) (hbc : Below wa.heap.size wa wb) (h : Below B w wa) : Below B w wb := h.trans (hbc.mono (Nat.le_trans hB h.size))
theorem cell_al {w : World} {a : Addr} {v : Value} (o : Obj) (h : w.cell? a = some v) : (w.alloc o).cell? a = some v := by
  rw [World.cell?_alloc_lt _ _ _ (World.block_lt_of_cell? w _ h)]; exact h
theorem below_al {B : Nat} {w wa : World} (hB : B ≤ w.heap.size) (o : Obj) (h : Below B w wa) : Below B w (wa.alloc o) := h.alloc (Nat.le_trans hB h.size) o
theorem own_below {w w' : World} {B base : Nat} {e : TypeId} {size : Nat} {v : Value} {n : Nat} {xs : List Value} (h : w.ownsRow base e size v n xs) (hb : Below B w w') (hB : ∀ k, v.ownBlock = some k → k < B) : w'.ownsRow base e size v n xs := by
  refine ⟨h.1, ?_⟩
  rcases h.2 with hn | ⟨g, cap, cur, rfl, h1, hg, rest⟩
  · exact .inl hn
  · exact .inr ⟨g, cap, cur, rfl, h1, by rw [hb.block g (hB g rfl)]; exact hg, rest⟩
theorem own_later {w w' : World} {base : Nat} {e : TypeId} {size : Nat} {v : Value} {n : Nat} {xs : List Value} (h : w.ownsRow base e size v n xs) (hb : Below w.heap.size w w') : w'.ownsRow base e size v n xs :=
  own_below h hb (fun k hk => (h.lt k hk).2)
theorem own_lower {w : World} {b b' : Nat} {e : TypeId} {size : Nat} {v : Value} {n : Nat} {xs : List Value} (h : w.ownsRow b e size v n xs) (hb : b' ≤ b) : w.ownsRow b' e size v n xs := by
  refine ⟨h.1, ?_⟩
  rcases h.2 with hn | ⟨g, cap, cur, rfl, h1, rest⟩
  · exact .inl hn
  · exact .inr ⟨g, cap, cur, rfl, by omega, rest⟩

theorem own_shape {w : World} {base : Nat} {e : TypeId} {size : Nat} {v : Value} {n : Nat} {xs : List Value} (h : w.ownsRow base e size v n xs) : ∃ x c, v = .slice x n c := by
  rcases h.2 with ⟨e1, e2⟩ | ⟨g, cap, cur, e1, _⟩
  · exact ⟨none, 0, by rw [e1, e2]⟩
  · exact ⟨_, cap, e1⟩
theorem akinds_sl (ao : Option Addr) (cap : Nat) (qs : List Quad) (w : World) (hm : qs.length ≤ 1024) (hnil : ao = none → qs.length = 0) (hc : KcIn w ao qs) :
    Calls Yba.prog 18 #[.slice ao qs.length cap] w fun e w' => ∃ x c, e = .returned (.slice x qs.length c) ∧ w'.ownsRow w.heap.size 37 4 (.slice x qs.length c) qs.length (q4 qs) ∧ Below w.heap.size w w' :=
  (akinds_any ao _ cap qs w rfl hm hnil hc).mono fun e w' ⟨v, h1, h2, h3⟩ => by
    obtain ⟨x, c, rfl⟩ := own_shape h2
    exact ⟨x, c, h1, h2, h3⟩
theorem aints_sl (ao : Option Addr) (cap : Nat) (zs : List Int) (w : World) (hm : zs.length ≤ 1024) (hnil : ao = none → zs.length = 0) (hc : IntsIn w ao zs) :
    Calls Yba.prog 19 #[.slice ao zs.length cap] w fun e w' => ∃ x c, e = .returned (.slice x zs.length c) ∧ w'.ownsRow w.heap.size 3 1 (.slice x zs.length c) zs.length (i64s zs) ∧ Below w.heap.size w w' :=
  (aints_any ao _ cap zs w rfl hm hnil hc).mono fun e w' ⟨v, h1, h2, h3⟩ => by
    obtain ⟨x, c, rfl⟩ := own_shape h2
    exact ⟨x, c, h1, h2, h3⟩

set_option maxRecDepth 100000 in
set_option maxHeartbeats 1600000 in
theorem abuild_any (d : Dat) (aA aB aC : Option Addr) (cA cB cC : Nat) (w : World) (hd : DIn w d aA aB aC) (hA : d.qa.length ≤ 1024) (hB : d.qb.length ≤ 1024) (hC : d.zc.length ≤ 1024) :
    Calls Yba.prog 9 #[.agg #[.int .i64 d.p, .int .i64 d.j, .int .i64 d.run, .int .i64 d.lim, .int .i64 d.tie, .slice aA d.qa.length cA, .slice aB d.qb.length cB, .slice aC d.zc.length cC]] w fun e w' =>
      ∃ pb va vb vc, e = .returned (.pointer (some ⟨pb, 0, none⟩)) ∧ PSt w' w.heap.size pb d va vb vc ∧ Below w.heap.size w w' := by
  go_enter Yba.func9, Yba.ntmps9
  go_wp2_with fail
  have hb0 : Below w.heap.size w (w.alloc (.cells #[.int .i64 d.p, .int .i64 d.j, .int .i64 d.run, .int .i64 d.lim, .int .i64 d.tie, .slice aA d.qa.length cA, .slice aB d.qb.length cB, .slice aC d.zc.length cC] 25)) := (Below.refl _ _).alloc (Nat.le_refl _) _
  have hc : ∀ i v, #[Value.int .i64 d.p, .int .i64 d.j, .int .i64 d.run, .int .i64 d.lim, .int .i64 d.tie, .slice aA d.qa.length cA, .slice aB d.qb.length cB, .slice aC d.zc.length cC][i]? = some v →
      (w.alloc (.cells #[.int .i64 d.p, .int .i64 d.j, .int .i64 d.run, .int .i64 d.lim, .int .i64 d.tie, .slice aA d.qa.length cA, .slice aB d.qb.length cB, .slice aC d.zc.length cC] 25)).cell? ⟨w.heap.size, i, none⟩ = some v := fun i v h => by simpa using h
  have c0 := hc 0 _ rfl
  have c1 := hc 1 _ rfl
  have c2 := hc 2 _ rfl
  have c3 := hc 3 _ rfl
  have c4 := hc 4 _ rfl
  have c5 := hc 5 _ rfl
  have c6 := hc 6 _ rfl
  have c7 := hc 7 _ rfl
  clear hc
  generalize w.alloc (.cells #[.int .i64 d.p, .int .i64 d.j, .int .i64 d.run, .int .i64 d.lim, .int .i64 d.tie, .slice aA d.qa.length cA, .slice aB d.qb.length cB, .slice aC d.zc.length cC] 25) = w1 at *
  have HD : ∀ w', Below w.heap.size w w' → Hid (DIn w' d aA aB aC) := fun w' hb => hd.below hb
  have hna := hd.na
  have hnb := hd.nb
  have hnc := hd.nc
  have hBw : w.heap.size ≤ w.heap.size := Nat.le_refl _
  clear hd
  generalize hBe : w.heap.size = B at HD hb0 c0 c1 c2 c3 c4 c5 c6 c7 ⊢
  rw [hBe] at hBw
  replace hBw : B ≤ w.heap.size := by omega
  have HBe : Hid (w.heap.size = B) := hBe
  clear hBe
  go_region_held3 (fun w' => w'.cell? ⟨B, 0, none⟩ = some (.int .i64 d.p) ∧ w'.cell? ⟨B, 1, none⟩ = some (.int .i64 d.j) ∧ w'.cell? ⟨B, 2, none⟩ = some (.int .i64 d.run) ∧ w'.cell? ⟨B, 3, none⟩ = some (.int .i64 d.lim) ∧ w'.cell? ⟨B, 4, none⟩ = some (.int .i64 d.tie) ∧ w'.cell? ⟨B, 5, none⟩ = some (.slice aA d.qa.length cA) ∧ w'.cell? ⟨B, 6, none⟩ = some (.slice aB d.qb.length cB) ∧ w'.cell? ⟨B, 7, none⟩ = some (.slice aC d.zc.length cC) ∧ Below B w w')
    (first | exact ⟨c0, c1, c2, c3, c4, c5, c6, c7, hb0.drew⟩ | (go_split_ands; exact ⟨cell_below hbc (by assumption), cell_below hbc (by assumption), cell_below hbc (by assumption), cell_below hbc (by assumption), cell_below hbc (by assumption), cell_below hbc (by assumption), cell_below hbc (by assumption), cell_below hbc (by assumption), below_step hBw hbc (by assumption)⟩) | (go_split_ands; exact ⟨cell_al _ (by assumption), cell_al _ (by assumption), cell_al _ (by assumption), cell_al _ (by assumption), cell_al _ (by assumption), cell_al _ (by assumption), cell_al _ (by assumption), cell_al _ (by assumption), below_al hBw _ (by assumption)⟩))
    (first | (go_at_call_of 18 (Value.slice aA d.qa.length cA); refine (akinds_sl aA _ d.qa _ hA hna ?_).mono ?_; (go_split_ands; exact (HD _ (by assumption)).out.ka); rintro e w2 ⟨xa, ka, rfl, oa, hbc⟩; have hb2 := hbc) | (go_at_call_of 18 (Value.slice aB d.qb.length cB); refine (akinds_sl aB _ d.qb _ hB hnb ?_).mono ?_; (go_split_ands; exact (HD _ (by assumption)).out.kb); rintro e w3 ⟨xb, kb, rfl, ob, hbc⟩; have hb3 := hbc) | (go_at_call 19; refine (aints_sl aC _ d.zc _ hC hnc ?_).mono ?_; (go_split_ands; exact (HD _ (by assumption)).out.kc); rintro e w4 ⟨xc, kc, rfl, oc, hbc⟩; have hb4 := hbc))
  have hB2 : Below B w w2 := below_step hBw hb2 hb0.drew
  have hB3 : Below B w w3 := below_step hBw hb3 hB2
  have hB4 : Below B w w4 := below_step hBw hb4 hB3
  have hz1 : B ≤ w1.heap.size := Nat.le_trans hBw hb0.size
  have hz2 : w1.heap.size ≤ w2.heap.size := hb2.size
  have hz3 := hb3.size
  have hz4 := hb4.size
  have hfar : (Value.slice xa d.qa.length ka).ownBlock = none ∨ (Value.slice xa d.qa.length ka).ownBlock ≠ (Value.slice xb d.qb.length kb).ownBlock := by
    cases hk : (Value.slice xa d.qa.length ka).ownBlock with
    | none => exact .inl rfl
    | some k =>
      right
      intro e
      have h1 := (oa.lt k hk).2
      have h2 := (ob.lt k e.symm).1
      omega
  have HP : Hid (PSt (w4.alloc (.cells #[.int .i64 d.p, .int .i64 d.j, .int .i64 d.run, .int .i64 d.lim, .int .i64 d.tie, .slice xa d.qa.length ka, .slice xb d.qb.length kb, .slice xc d.zc.length kc] 33)) B w4.heap.size d (.slice xa d.qa.length ka) (.slice xb d.qb.length kb) (.slice xc d.zc.length kc)) :=
    ⟨heap_alloc_new w4 _, by omega, (own_lower (own_later (own_later oa hb3) hb4) hz1).alloc _, (own_lower (own_later ob hb4) (by omega)).alloc _, (own_lower oc (by omega)).alloc _, hfar⟩
  have hB5 := below_al hBw (.cells #[.int .i64 d.p, .int .i64 d.j, .int .i64 d.run, .int .i64 d.lim, .int .i64 d.tie, .slice xa d.qa.length ka, .slice xb d.qb.length kb, .slice xc d.zc.length kc] 33) hB4
  clear oa ob oc hb0 hb2 hb3 hb4 hbc c0 c1 c2 c3 c4 c5 c6 c7 HD hfar hB2 hB3 hB4
  go_wp2
  go_ret
  exact ⟨w4.heap.size, _, _, _, rfl, by rw [HBe.out]; exact HP.out, by rw [HBe.out]; exact hB5⟩
end Go.Proofs.Ybulkawqg.A
