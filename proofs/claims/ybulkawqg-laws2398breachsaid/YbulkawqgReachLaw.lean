/-
  LawS2398BReach: the walk.
-/
import Derived.Test.YbulkawqgComps
namespace Go.Proofs.Ybulkawqg
open Go.RowKit

theorem pairsAt_of_own_lt {w : World} {B : Nat} {v : Value} {ps : List (Nat × Nat)} (h : w.ownsRow B 55 2 v ps.length (prs ps)) :
    ∃ ao cap, v = .slice ao ps.length cap ∧ PairsAt w ao ps ∧ ∀ a, ao = some a → a.block < w.heap.size := by
  obtain ⟨ao, cap, e, hp⟩ := pairsAt_of_own h
  refine ⟨ao, cap, e, hp, fun a ha => ?_⟩
  subst ha
  exact (h.lt a.block (by rw [e]; rfl)).2

theorem reach_big (x : Int) (aG aR : Option Addr) (lG cG lR cR : Nat) (w : World) (h : 1024 < lG ∨ 1024 < lR) :
    Calls Yba.prog 5 #[.int .u8 x, .slice aG lG cG, .slice aR lR cR] w fun e w' => e = .returned (.bool true) ∧ Below w.heap.size w w' := by
  by_cases h1 : 1024 < lG
  · have d1 : decide (1024 < (lG : Int)) = true := by simp; omega
    go_enter Yba.func5, Yba.ntmps5
    go_wp2_with fail
    go_ret
    exact ⟨rfl, Below.refl _ _⟩
  · have d1 : decide (1024 < (lG : Int)) = false := by simp; omega
    have d2 : decide (1024 < (lR : Int)) = true := by simp; omega
    go_enter Yba.func5, Yba.ntmps5
    go_wp2_with fail
    go_ret
    exact ⟨rfl, Below.refl _ _⟩

set_option maxRecDepth 100000 in
set_option maxHeartbeats 1600000 in
theorem reachlaw_any (x : Int) (aG aR : Option Addr) (lG cG lR cR : Nat) (A1 C1 A2 C2 : Nat → Int) (w : World) (hx0 : 0 ≤ x) (hx1 : x ≤ 255) (hlG : lG ≤ 1024) (hlR : lR ≤ 1024) (hG : EdgesIn w aG lG A1 C1) (hR0 : EdgesIn w aR lR A2 C2) :
    Calls Yba.prog 5 #[.int .u8 x, .slice aG lG cG, .slice aR lR cR] w fun e w' => e = .returned (.bool true) ∧ Below w.heap.size w w' := by
  have hm0 : 0 ≤ x % 12 := Int.emod_nonneg _ (by omega)
  obtain ⟨n, hn⟩ := Int.eq_ofNat_of_zero_le (show 0 ≤ x % 12 + 1 by omega)
  have hn1 : 1 ≤ n := by omega
  have hn2 : n ≤ 12 := by omega
  have d1 : decide (1024 < (lG : Int)) = false := by simp; omega
  have d2 : decide (1024 < (lR : Int)) = false := by simp; omega
  go_enter Yba.func5, Yba.ntmps5
  go_wp2_with fail
  clear d1 d2 hm0 hn
  refine (graph_any n aG lG cG A1 C1 w ⟨hn1, hn2⟩ hlG hG).mono ?_
  rintro e w1 ⟨vs, adj, rfl, hgr⟩
  have hb1 : Below w.heap.size w w1 := hgr.old
  have hadj := adjAt_of_gr hgr hlG
  have hR1 := hR0.below hb1
  clear hgr hG vs hR0
  go_wp2_with fail
  refine (reach_any w.heap.size n adj w1 hn1 hn2 hadj).mono ?_
  rintro e w2 ⟨R, rfl, hmat, hR⟩
  have hb2 : Below w1.heap.size w1 w2 := hmat.old
  have hM := matAt_of hmat
  have hadj2 := hadj.below hb2
  have hR2 := hR1.below hb2
  have hbw : Below w.heap.size w w2 := hb1.trans (hb2.mono hb1.size)
  have hz1 := hb1.size
  have hz2 := hb2.size
  have hM1 := hM.1
  clear hmat hadj hb1 hb2 hR1
  generalize w1.heap.size = rb at *
  go_wp2_with fail
  refine (edges_any n aR lR cR A2 C2 w2 ⟨hn1, hn2⟩ hlR hR2).mono ?_
  rintro e w3 ⟨v, ps, rfl, hlo, hpl, hown, hb3⟩
  obtain ⟨ao, cap, hv, hpa, hpb⟩ := pairsAt_of_own_lt hown
  rw [hv]
  have hM3 := hM.below hb3 hM1
  have hadj3 := hadj2.below hb3
  have hbw3 : Below w.heap.size w w3 := hbw.trans (hb3.mono hbw.size)
  have hz3 := hb3.size
  clear hM hadj2 hbw hb3 hown hR2 hv
  go_wp2_with fail
  have hb4 : Below w3.heap.size w3 (w3.alloc (.cells #[.map none, .slice (some ⟨w.heap.size, 0, none⟩) n n, .slice none 0 0, .slice none 0 0] 51)) := (Below.refl _ _).alloc (Nat.le_refl _) _
  have hl1 : (w3.alloc (.cells #[.map none, .slice (some ⟨w.heap.size, 0, none⟩) n n, .slice none 0 0, .slice none 0 0] 51)).cell? ⟨w3.heap.size, 1, none⟩ = some (.slice (some ⟨w.heap.size, 0, none⟩) n n) := by simp
  have hl3 : (w3.alloc (.cells #[.map none, .slice (some ⟨w.heap.size, 0, none⟩) n n, .slice none 0 0, .slice none 0 0] 51)).cell? ⟨w3.heap.size, 3, none⟩ = some (.slice none 0 0) := by simp
  have hlf : (w3.alloc (.cells #[.map none, .slice (some ⟨w.heap.size, 0, none⟩) n n, .slice none 0 0, .slice none 0 0] 51)).frozen? ⟨w3.heap.size, 3, none⟩ = false := by simp
  generalize w3.alloc (.cells #[.map none, .slice (some ⟨w.heap.size, 0, none⟩) n n, .slice none 0 0, .slice none 0 0] 51) = w4 at *
  have hpa4 := hpa.below hb4
  have hadj4 := hadj3.below hb4
  have hM4 := hM3.below hb4 (by omega)
  refine (onCycle_fresh w3.heap.size w.heap.size n adj ao cap ps w4 hn1 hn2 hpl hlo hpa4 (fun y hy => by have := hpb y hy; omega) hadj4 hl1 hl3 hlf).mono ?_
  rintro e w5 ⟨cb, c, rfl, hl5, hcp, hfin, hb5⟩
  have hb35 : Below w3.heap.size w3 w5 := hb4.trans hb5
  have hpa5 := hpa.below hb35
  have hM5 := hM3.below hb35 (by omega)
  have hbw5 : Below w.heap.size w w5 := hbw3.trans (hb35.mono (by omega))
  have hl5b := World.block_lt_of_cell? w5 _ hl5
  simp only at hl5b
  have HK : Hid (∀ u v, u < n → v < n → (c u == c v) = (R u v && R v u)) := fun u v hu hv => by
    rw [Bool.eq_iff_iff]
    simp only [beq_iff_eq, Bool.and_eq_true, hfin u v hu hv, hR u v hu hv, hR v u hv hu]
  clear hb5 hbw3 hM3 hM4 hadj3 hadj4 hl1 hl3 hlf hpa hpa4 hpb hR hfin hb4 hb35 hcp
  generalize w3.heap.size = lb at *
  go_wp2_with fail
  go_loopw [13, 45] (fun t i wr => ∃ k : Nat, k ≤ ps.length ∧ i = .int .i64 k ∧ t = .bool ((ps.take k).any (hit c)) ∧ Below w5.heap.size w5 wr) (fun _ i _ => ps.length - (intOf i).toNat)
  case atStart => exact ⟨0, Nat.zero_le _, rfl, rfl, Below.refl _ _⟩
  case round =>
    obtain ⟨k, hk, rfl, rfl, hb⟩ := hrel
    by_cases hlk : k < ps.length
    · have hsn : Hid ((ps.take (k + 1)).any (hit c) = ((ps.take k).any (hit c) || hit c (ps.getD k (0, 0)))) := any_take_succ (hit c) ps (0, 0) k hlk
      have hmem : ps.getD k (0, 0) ∈ ps := by simp [hlk]
      obtain ⟨hx, hy⟩ := hlo _ hmem
      obtain ⟨b, off, hao, hbs, c1, c2⟩ := hpa5 k hlk
      clear hmem
      generalize ps.getD k (0, 0) = pr at *
      obtain ⟨x', y'⟩ := pr
      simp only at hx hy c1 c2
      rw [← hb.cell (p := ⟨b, _, none⟩) hbs] at c1 c2
      subst hao
      have hMr := hM5.below hb hM5.1
      have e1 := hMr.2.1 x' hx
      have e2 := hMr.2.1 y' hy
      have e3 := hMr.2.2 x' y' hx hy
      have e4 := hMr.2.2 y' x' hy hx
      have hk0 := HK.out x' y' hx hy
      have hxi : (x' : Int) < (n : Int) := by omega
      have hyi : (y' : Int) < (n : Int) := by omega
      clear hpa5 hM5 hlo hl5 hMr
      go_wp2_with fail
      have hb6 : Below w5.heap.size w5 (wr.alloc (.cells #[.int .i32 (x' : Int), .int .i32 (y' : Int)] 55)) := hb.alloc hb.size _
      have g0 : (wr.alloc (.cells #[.int .i32 (x' : Int), .int .i32 (y' : Int)] 55)).cell? ⟨wr.heap.size, 0, none⟩ = some (.int .i32 x') := by simp
      have g1 : (wr.alloc (.cells #[.int .i32 (x' : Int), .int .i32 (y' : Int)] 55)).cell? ⟨wr.heap.size, 1, none⟩ = some (.int .i32 y') := by simp
      replace e1 := cell_alloc e1 (.cells #[.int .i32 (x' : Int), .int .i32 (y' : Int)] 55)
      replace e2 := cell_alloc e2 (.cells #[.int .i32 (x' : Int), .int .i32 (y' : Int)] 55)
      replace e3 := cell_alloc e3 (.cells #[.int .i32 (x' : Int), .int .i32 (y' : Int)] 55)
      replace e4 := cell_alloc e4 (.cells #[.int .i32 (x' : Int), .int .i32 (y' : Int)] 55)
      generalize wr.alloc (.cells #[.int .i32 (x' : Int), .int .i32 (y' : Int)] 55) = w6 at *
      clear hb c1 c2
      by_cases hxy : x' = y'
      · have hd : ((x' : Int) == (y' : Int)) = true := by simp [hxy]
        clear hk0
        have HX : Hid (x' = y') := hxy
        clear hxy
        go_quiet (fail)
        go_wp2
        go_roundw
        case rel => exact ⟨k + 1, by omega, by go_num, by rw [hsn.out]; simp [hit, HX.out], below_drewN hb6 _⟩
        case measure => simp [intOf]; omega
      · have hd : ((x' : Int) == (y' : Int)) = false := by simp; omega
        have HK0 : Hid ((c x' == c y') = (R x' y' && R y' x')) := hk0
        clear hk0
        cases h1 : R x' y' with
        | false =>
          have hh : Hid (hit c (x', y') = false) := by show _ = false; simp only [hit, HK0.out, h1]; simp [hxy]
          rw [h1] at e3
          clear h1 HK0
          go_quiet (fail)
          go_wp2
          go_roundw
          case rel => exact ⟨k + 1, by omega, by go_num, by rw [hsn.out, hh.out]; simp, below_drewN hb6 _⟩
          case measure => simp [intOf]; omega
        | true =>
          rw [h1] at e3
          cases h2 : R y' x' with
          | false =>
            have hh : Hid (hit c (x', y') = false) := by show _ = false; simp only [hit, HK0.out, h1, h2]; simp [hxy]
            rw [h2] at e4
            clear h1 h2 HK0
            go_quiet (fail)
            go_wp2
            go_roundw
            case rel => exact ⟨k + 1, by omega, by go_num, by rw [hsn.out, hh.out]; simp, below_drewN hb6 _⟩
            case measure => simp [intOf]; omega
          | true =>
            have hh : Hid (hit c (x', y') = true) := by show _ = true; simp only [hit, HK0.out, h1, h2]; simp
            rw [h2] at e4
            clear h1 h2 HK0
            go_quiet (fail)
            go_wp2
            go_roundw
            case rel => exact ⟨k + 1, by omega, by go_num, by rw [hsn.out, hh.out]; simp, below_drewN hb6 _⟩
            case measure => simp [intOf]; omega
    · have hkl : k = ps.length := by omega
      subst hkl
      have hlr := (hb.cell (p := ⟨lb, 3, none⟩) hl5b).trans hl5
      have hbr : Below w.heap.size w wr := hbw5.trans (hb.mono hbw5.size)
      clear hpa5 hM5 hlo hl5 hbw5 hb
      simp only [List.take_length]
      go_wp2_with fail
      go_ret
      exact ⟨rfl, hbr⟩
end Go.Proofs.Ybulkawqg
