/-
  LawS2398BCached: the walk.
-/
import Derived.Test.YbulkawqgSl
namespace Go.Proofs.Ybulkawqg
open Go.RowKit

/-- A slice of bytes that came in. -/
def BytesIn (w : World) (ao : Option Addr) (len : Nat) (Z : Nat → Int) : Prop :=
  ∀ j, j < len → (0 ≤ Z j ∧ Z j ≤ 255) ∧ ∃ b off, ao = some ⟨b, off, none⟩ ∧ b < w.heap.size ∧ w.cell? ⟨b, off + j, none⟩ = some (.int .u8 (Z j))

theorem EdgesIn.below {w w' : World} {ao : Option Addr} {len : Nat} {A C : Nat → Int} (h : EdgesIn w ao len A C) (hb : Below w.heap.size w w') : EdgesIn w' ao len A C := fun j hj => by
  obtain ⟨h1, h2, b, off, e, hlt, c1, c2⟩ := h j hj
  exact ⟨h1, h2, b, off, e, Nat.lt_of_lt_of_le hlt hb.size, (hb.cell (p := ⟨b, _, none⟩) hlt).trans c1, (hb.cell (p := ⟨b, _, none⟩) hlt).trans c2⟩
theorem BytesIn.below {w w' : World} {ao : Option Addr} {len : Nat} {Z : Nat → Int} (h : BytesIn w ao len Z) (hb : Below w.heap.size w w') : BytesIn w' ao len Z := fun j hj => by
  obtain ⟨h1, b, off, e, hlt, c1⟩ := h j hj
  exact ⟨h1, b, off, e, Nat.lt_of_lt_of_le hlt hb.size, (hb.cell (p := ⟨b, _, none⟩) hlt).trans c1⟩
theorem CompAt.below {w w' : World} {cb n B : Nat} {c : Nat → Int} (h : CompAt w cb n c) (hb : Below B w w') (hB : cb < B) : CompAt w' cb n c :=
  ⟨Nat.lt_of_lt_of_le h.1 hb.size, fun u hu => (hb.cell (p := ⟨cb, _, none⟩) hB).trans (h.2 u hu)⟩
theorem PairsAt.below {w w' : World} {ao : Option Addr} {ps : List (Nat × Nat)} (h : PairsAt w ao ps) (hb : Below w.heap.size w w') : PairsAt w' ao ps := fun j hj => by
  obtain ⟨b, off, e, hlt, c1, c2⟩ := h j hj
  exact ⟨b, off, e, Nat.lt_of_lt_of_le hlt hb.size, (hb.cell (p := ⟨b, _, none⟩) hlt).trans c1, (hb.cell (p := ⟨b, _, none⟩) hlt).trans c2⟩

theorem prs_getElem? (ps : List (Nat × Nat)) : ∀ j, j < ps.length → (prs ps)[j * 2]? = some (.int .i32 ((ps.getD j (0, 0)).1 : Int)) ∧ (prs ps)[j * 2 + 1]? = some (.int .i32 ((ps.getD j (0, 0)).2 : Int)) := by
  induction ps with
  | nil => intro j hj; simp at hj
  | cons p ps ih =>
    intro j hj
    have e : prs (p :: ps) = .int .i32 (p.1 : Int) :: .int .i32 (p.2 : Int) :: prs ps := by simp [prs]
    rw [e]
    cases j with
    | zero => simp
    | succ j =>
      have := ih j (by simpa using hj)
      rw [show (j + 1) * 2 = j * 2 + 1 + 1 from by omega]
      simpa using this

theorem pairsAt_of_own {w : World} {B : Nat} {v : Value} {ps : List (Nat × Nat)} (h : w.ownsRow B 55 2 v ps.length (prs ps)) : ∃ ao cap, v = .slice ao ps.length cap ∧ PairsAt w ao ps := by
  rcases h.2 with ⟨rfl, h0⟩ | ⟨g, cap, cur, rfl, hb, hg, hn, hm, hs, ht⟩
  · rw [h0]
    exact ⟨none, 0, rfl, fun j hj => by omega⟩
  · refine ⟨_, _, rfl, fun j hj => ⟨g, 0, rfl, (Array.getElem?_eq_some_iff.1 hg).1, ?_, ?_⟩⟩
    · have h1 := (prs_getElem? ps j hj).1
      rw [← ht, List.getElem?_take] at h1
      split at h1
      · simp [World.cell?, hg]; simpa using h1
      · cases h1
    · have h1 := (prs_getElem? ps j hj).2
      rw [← ht, List.getElem?_take] at h1
      split at h1
      · simp [World.cell?, hg]; simpa using h1
      · cases h1

set_option maxRecDepth 100000 in
set_option maxHeartbeats 1600000 in
theorem cached_any (x : Int) (aG aC aR : Option Addr) (lG cG lC cC lR cR : Nat) (A1 C1 Z A2 C2 : Nat → Int) (w : World) (hx0 : 0 ≤ x) (hx1 : x ≤ 255) (hlG : lG ≤ 1024) (hlR : lR ≤ 1024) (hlC : lC ≤ 1024)
    (hG : EdgesIn w aG lG A1 C1) (hC : BytesIn w aC lC Z) (hR : EdgesIn w aR lR A2 C2) :
    Calls Yba.prog 7 #[.int .u8 x, .slice aG lG cG, .slice aC lC cC, .slice aR lR cR] w fun e w' => e = .returned (.bool true) ∧ Below w.heap.size w w' := by
  have hm0 : 0 ≤ x % 12 := Int.emod_nonneg _ (by omega)
  obtain ⟨n, hn⟩ := Int.eq_ofNat_of_zero_le (show 0 ≤ x % 12 + 1 by omega)
  have hn1 : 1 ≤ n := by omega
  have hn2 : n ≤ 12 := by omega
  have hmk := run_make_row' (P := Yba.prog) 49 21 (.int .i32 0) 4 Yba.underlying49 Yba.info21 rfl .i64 .i64 n (by omega) (by omega)
  have d1 : decide (1024 < (lG : Int)) = false := by simp; omega
  have d2 : decide (1024 < (lR : Int)) = false := by simp; omega
  have d3 : decide (1024 < (lC : Int)) = false := by simp; omega
  go_enter Yba.func7, Yba.ntmps7
  go_wp2_with fail
  clear d1 d2 d3 hm0 hn
  refine (graph_any n aG lG cG A1 C1 w ⟨hn1, hn2⟩ hlG hG).mono ?_
  rintro e w1 ⟨vs, adj, rfl, hgr⟩
  have hb1 : Below w.heap.size w w1 := hgr.old
  clear hgr hG vs adj
  have hC1 := hC.below hb1
  have hR1 := hR.below hb1
  clear hC hR
  go_wp2_with fail
  have hb2 : Below w1.heap.size w1 (w1.alloc (.cells (madeCells #[.int .i32 0] n) 21)) := (Below.refl _ _).alloc (Nat.le_refl _) _
  have hr2 := World.rowIs_made w1 (.int .i32 0) n 21
  clear hmk
  go_loopw [12] (fun i wr => ∃ k : Nat, k ≤ n ∧ i = .int .i64 k ∧ (∃ c : Nat → Int, wr.rowIs w1.heap.size 21 n (fun u => .int .i32 (c u))) ∧ Below w1.heap.size w1 wr) (fun i _ => n - (intOf i).toNat)
  case atStart => exact ⟨0, Nat.zero_le _, rfl, ⟨fun _ => 0, hr2⟩, hb2⟩
  case round =>
    clear hb2 hr2
    obtain ⟨k, hk, rfl, ⟨c, hrow⟩, hb⟩ := hrel
    by_cases hgo : k < n ∧ k < lC
    · obtain ⟨hlt, hlc⟩ := hgo
      obtain ⟨⟨z0, z1⟩, b, off, hao, hbs, hz⟩ := hC1 k hlc
      rw [← hb.cell (p := ⟨b, _, none⟩) hbs] at hz
      subst hao
      have hce := hrow.cell hlt
      have hcf := hrow.frozen k
      clear hC1 hR1
      go_wp2_with fail
      go_roundw
      case rel => exact ⟨k + 1, by omega, by go_num, ⟨fun u => if u = k then Z k % 4 else c u, (hrow.set k _).congr (fun u _ => by by_cases e : u = k <;> simp [e])⟩, hb.setCell (Nat.le_refl _) _⟩
      case measure => simp [intOf]; omega
    · have hcomp : CompAt wr w1.heap.size n c := ⟨hrow.lt, fun u hu => hrow.cell hu⟩
      have hRr := hR1.below hb
      have hbw : Below w.heap.size w wr := hb1.trans (hb.mono hb1.size)
      have hz1 := hb1.size
      have hz2 := hrow.lt
      clear hb hrow hC1 hR1
      by_cases hlt : k < n
      all_goals
        go_wp2_with fail
        refine (clone_any w1.heap.size n c wr hn1 hn2 hcomp).mono ?_
        rintro e w2 ⟨g, cp, rfl, hg, hkeep, hb2⟩
        have hcomp2 := hcomp.below hb2 hcomp.1
        have hR2 := hRr.below hb2
        have hbw2 : Below w.heap.size w w2 := hbw.trans (hb2.mono hbw.size)
        have hz3 := hb2.size
        go_wp2_with fail
        refine (edges_any n aR lR cR A2 C2 w2 ⟨hn1, hn2⟩ hlR hR2).mono ?_
        rintro e w3 ⟨v, ps, rfl, hlo, hpl, hown, hb3⟩
        obtain ⟨ao, cap, hv, hpa⟩ := pairsAt_of_own hown
        rw [hv]
        have hcomp3 := hcomp2.below hb3 hcomp2.1
        have hkeep3 := hkeep.below hb3 hkeep.1
        have hbw3 : Below w.heap.size w w3 := hbw2.trans (hb3.mono hbw2.size)
        have hz4 := hb3.size
        clear hkeep hcomp2 hcomp hown hR2 hRr hb2 hb3 hbw hbw2 hv
        go_wp2_with fail
        have hl4 : (w3.alloc (.cells #[.map none, .slice (some ⟨w.heap.size, 0, none⟩) n n, .slice none 0 0, .slice (some ⟨w1.heap.size, 0, none⟩) n n] 51)).cell? ⟨w3.heap.size, 3, none⟩ = some (.slice (some ⟨w1.heap.size, 0, none⟩) n n) := by simp
        have hb4 : Below w3.heap.size w3 (w3.alloc (.cells #[.map none, .slice (some ⟨w.heap.size, 0, none⟩) n n, .slice none 0 0, .slice (some ⟨w1.heap.size, 0, none⟩) n n] 51)) := (Below.refl _ _).alloc (Nat.le_refl _) _
        generalize w3.alloc (.cells #[.map none, .slice (some ⟨w.heap.size, 0, none⟩) n n, .slice none 0 0, .slice (some ⟨w1.heap.size, 0, none⟩) n n] 51) = w4 at *
        have hpa4 := hpa.below hb4
        have hcomp4 := hcomp3.below hb4 hcomp3.1
        have hkeep4 := hkeep3.below hb4 hkeep3.1
        have hbw4 : Below w.heap.size w w4 := hbw3.trans (hb4.mono hbw3.size)
        clear hpa hcomp3 hkeep3 hbw3 hb4
        refine (onCycle_cached w3.heap.size w1.heap.size n ao cap ps c w4 hn2 hpl hlo hpa4 hl4 hcomp4).mono ?_
        rintro e w5 ⟨rfl, hb5⟩
        have hpa5 := hpa4.below hb5
        have hcomp5 := hcomp4.below hb5 hcomp4.1
        have hkeep5 := hkeep4.below hb5 hkeep4.1
        have hl5 := (hb5.cell (p := ⟨w3.heap.size, 3, none⟩) (World.block_lt_of_cell? w4 _ hl4)).trans hl4
        have hl5b := World.block_lt_of_cell? w5 _ hl5
        have hbw5 : Below w.heap.size w w5 := hbw4.trans (hb5.mono hbw4.size)
        simp only at hl5b
        clear hpa4 hcomp4 hkeep4 hbw4 hb5 hl4
        go_wp2_with fail
        go_loopw [17, 77] (fun t i wr => ∃ k : Nat, k ≤ ps.length ∧ i = .int .i64 k ∧ t = .bool ((ps.take k).any (hit c)) ∧ Below w5.heap.size w5 wr) (fun _ i _ => ps.length - (intOf i).toNat)
        case atStart => exact ⟨0, Nat.zero_le _, rfl, rfl, Below.refl _ _⟩
        case round =>
          obtain ⟨k, hk, rfl, rfl, hb⟩ := hrel
          by_cases hlk : k < ps.length
          · have hsn : Hid ((ps.take (k + 1)).any (hit c) = ((ps.take k).any (hit c) || hit c (ps.getD k (0, 0)))) := any_take_succ (hit c) ps (0, 0) k hlk
            have hmem : ps.getD k (0, 0) ∈ ps := by simp [hlk]
            obtain ⟨hx, hy⟩ := hlo _ hmem
            obtain ⟨b, off, hao, hbs, c1, c2⟩ := hpa5 k hlk
            clear hmem
            generalize ps.getD k (0, 0) = pr at *
            obtain ⟨x', y'⟩ := pr
            simp only at hx hy c1 c2
            rw [← hb.cell (p := ⟨b, _, none⟩) hbs] at c1 c2
            subst hao
            have hcx : wr.cell? ⟨g, x', none⟩ = some (.int .i32 (c x')) := (hb.cell (p := ⟨g, _, none⟩) hkeep5.1).trans (hkeep5.2 x' hx)
            have hcy : wr.cell? ⟨g, y', none⟩ = some (.int .i32 (c y')) := (hb.cell (p := ⟨g, _, none⟩) hkeep5.1).trans (hkeep5.2 y' hy)
            have hws := hb.size
            have hxi : (x' : Int) < (n : Int) := by omega
            have hyi : (y' : Int) < (n : Int) := by omega
            clear hpa5 hcomp5 hkeep5 hlo hl5
            go_wp2_with fail
            have hb6 : Below w5.heap.size w5 (wr.alloc (.cells #[.int .i32 (x' : Int), .int .i32 (y' : Int)] 55)) := hb.alloc hb.size _
            have e0 : (wr.alloc (.cells #[.int .i32 (x' : Int), .int .i32 (y' : Int)] 55)).cell? ⟨wr.heap.size, 0, none⟩ = some (.int .i32 x') := by simp
            have e1 : (wr.alloc (.cells #[.int .i32 (x' : Int), .int .i32 (y' : Int)] 55)).cell? ⟨wr.heap.size, 1, none⟩ = some (.int .i32 y') := by simp
            replace hcx := cell_alloc hcx (.cells #[.int .i32 (x' : Int), .int .i32 (y' : Int)] 55)
            replace hcy := cell_alloc hcy (.cells #[.int .i32 (x' : Int), .int .i32 (y' : Int)] 55)
            generalize wr.alloc (.cells #[.int .i32 (x' : Int), .int .i32 (y' : Int)] 55) = w6 at *
            clear hb c1 c2
            by_cases hxy : x' = y'
            · have hd : ((x' : Int) == (y' : Int)) = true := by simp [hxy]
              go_quiet (fail)
              go_wp2
              go_roundw
              case rel => exact ⟨k + 1, by omega, by go_num, by rw [hsn.out]; simp [hit, hxy], below_drewN hb6 _⟩
              case measure => simp [intOf]; omega
            · have hd : ((x' : Int) == (y' : Int)) = false := by simp; omega
              go_quiet (fail)
              go_wp2
              · have he : (c x' == c y') = true := by assumption
                go_roundw
                case rel => exact ⟨k + 1, by omega, by go_num, by rw [hsn.out]; simp [hit, he], below_drewN hb6 _⟩
                case measure => simp [intOf]; omega
              · have he : (c x' == c y') = false := by assumption
                go_roundw
                case rel => exact ⟨k + 1, by omega, by go_num, by rw [hsn.out]; simp [hit, he, hxy], below_drewN hb6 _⟩
                case measure => simp [intOf]; omega
          · have hkl : k = ps.length := by omega
            subst hkl
            have hcr := hcomp5.below hb hcomp5.1
            have hkr := hkeep5.below hb hkeep5.1
            have hlr := (hb.cell (p := ⟨w3.heap.size, 3, none⟩) hl5b).trans hl5
            have hbr : Below w.heap.size w wr := hbw5.trans (hb.mono hbw5.size)
            clear hpa5 hcomp5 hkeep5 hlo hl5 hbw5 hb
            simp only [List.take_length]
            go_wp2_with fail
            refine (equal_any w1.heap.size g n n cp c wr hn2 hcr hkr).mono ?_
            rintro e w7 ⟨rfl, hb7⟩
            have hfin : Below w.heap.size w w7 := hbr.trans (hb7.mono hbr.size)
            clear hbr hb7 hcr hkr hlr
            go_wp2
            go_ret
            exact ⟨rfl, hfin⟩

/-- Where one of the three is too long the answer is true at once. -/
theorem cached_big (x : Int) (aG aC aR : Option Addr) (lG cG lC cC lR cR : Nat) (w : World) (h : 1024 < lG ∨ 1024 < lR ∨ 1024 < lC) :
    Calls Yba.prog 7 #[.int .u8 x, .slice aG lG cG, .slice aC lC cC, .slice aR lR cR] w fun e w' => e = .returned (.bool true) ∧ Below w.heap.size w w' := by
  by_cases h1 : 1024 < lG
  · have d1 : decide (1024 < (lG : Int)) = true := by simp; omega
    go_enter Yba.func7, Yba.ntmps7
    go_wp2_with fail
    go_ret
    exact ⟨rfl, Below.refl _ _⟩
  · have d1 : decide (1024 < (lG : Int)) = false := by simp; omega
    by_cases h2 : 1024 < lR
    · have d2 : decide (1024 < (lR : Int)) = true := by simp; omega
      go_enter Yba.func7, Yba.ntmps7
      go_wp2_with fail
      go_ret
      exact ⟨rfl, Below.refl _ _⟩
    · have d2 : decide (1024 < (lR : Int)) = false := by simp; omega
      have d3 : decide (1024 < (lC : Int)) = true := by simp; omega
      go_enter Yba.func7, Yba.ntmps7
      go_wp2_with fail
      go_ret
      exact ⟨rfl, Below.refl _ _⟩
end Go.Proofs.Ybulkawqg
