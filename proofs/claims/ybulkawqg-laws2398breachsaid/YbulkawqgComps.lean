/-
  LawS2398BComponents: the walk.
-/
import Derived.Test.YbulkawqgFresh
namespace Go.Proofs.Ybulkawqg
open Go.RowKit

/-- The rows of Bools as they are read. -/
def MatAt (w : World) (rb n : Nat) (R : Nat → Nat → Bool) : Prop :=
  rb + n < w.heap.size ∧ (∀ i, i < n → w.cell? ⟨rb, i, none⟩ = some (.slice (some ⟨rb + 1 + i, 0, none⟩) n n)) ∧ ∀ i j, i < n → j < n → w.cell? ⟨rb + 1 + i, j, none⟩ = some (.bool (R i j))
theorem matAt_of {w0 w : World} {rb n : Nat} {R : Nat → Nat → Bool} (h : Mat w0 w rb n n R) : MatAt w rb n R :=
  ⟨by have := h.size; omega, fun i hi => h.cellRow hi hi, fun i j hi hj => (h.rows i hi).cell hj⟩
theorem MatAt.below {w w' : World} {rb n B : Nat} {R : Nat → Nat → Bool} (h : MatAt w rb n R) (hb : Below B w w') (hB : rb + n < B) : MatAt w' rb n R :=
  ⟨Nat.lt_of_lt_of_le h.1 hb.size, fun i hi => (hb.cell (p := ⟨rb, i, none⟩) (by show rb < B; omega)).trans (h.2.1 i hi), fun i j hi hj => (hb.cell (p := ⟨rb + 1 + i, j, none⟩) (by show rb + 1 + i < B; omega)).trans (h.2.2 i j hi hj)⟩

theorem pairs_zero (w : World) : PairsAt (w.alloc (.cells #[.int .i32 0, .int .i32 0] 55)) (some ⟨w.heap.size, 0, none⟩) [(0, 0)] := by
  intro j hj
  have : j = 0 := by simp at hj; exact hj
  subst this
  exact ⟨w.heap.size, 0, rfl, by simp, by simp, by simp⟩

theorem comps_big (x : Int) (aG : Option Addr) (lG cG : Nat) (w : World) (h : 1024 < lG) :
    Calls Yba.prog 6 #[.int .u8 x, .slice aG lG cG] w fun e w' => e = .returned (.bool true) ∧ Below w.heap.size w w' := by
  have d1 : decide (1024 < (lG : Int)) = true := by simp; omega
  go_enter Yba.func6, Yba.ntmps6
  go_wp2_with fail
  go_ret
  exact ⟨rfl, Below.refl _ _⟩

set_option maxRecDepth 100000 in
set_option maxHeartbeats 1600000 in
theorem comps_any (x : Int) (aG : Option Addr) (lG cG : Nat) (A1 C1 : Nat → Int) (w : World) (hx0 : 0 ≤ x) (hx1 : x ≤ 255) (hlG : lG ≤ 1024) (hG : EdgesIn w aG lG A1 C1) :
    Calls Yba.prog 6 #[.int .u8 x, .slice aG lG cG] w fun e w' => e = .returned (.bool true) ∧ Below w.heap.size w w' := by
  have hm0 : 0 ≤ x % 12 := Int.emod_nonneg _ (by omega)
  obtain ⟨n, hn⟩ := Int.eq_ofNat_of_zero_le (show 0 ≤ x % 12 + 1 by omega)
  have hn1 : 1 ≤ n := by omega
  have hn2 : n ≤ 12 := by omega
  have d1 : decide (1024 < (lG : Int)) = false := by simp; omega
  go_enter Yba.func6, Yba.ntmps6
  go_wp2_with fail
  clear d1 hm0 hn
  refine (graph_any n aG lG cG A1 C1 w ⟨hn1, hn2⟩ hlG hG).mono ?_
  rintro e w1 ⟨vs, adj, rfl, hgr⟩
  have hb1 : Below w.heap.size w w1 := hgr.old
  have hadj := adjAt_of_gr hgr hlG
  clear hgr hG vs
  go_wp2_with fail
  refine (reach_any w.heap.size n adj w1 hn1 hn2 hadj).mono ?_
  rintro e w2 ⟨R, rfl, hmat, hR⟩
  have hb2 : Below w1.heap.size w1 w2 := hmat.old
  have hM := matAt_of hmat
  have hadj2 := hadj.below hb2
  have hbw : Below w.heap.size w w2 := hb1.trans (hb2.mono hb1.size)
  have hz1 := hb1.size
  have hz2 := hb2.size
  have hM1 := hM.1
  clear hmat hadj hb1 hb2
  generalize w1.heap.size = rb at *
  go_wp2_with fail
  have hb3 : Below w2.heap.size w2 (w2.alloc (.cells #[.map none, .slice (some ⟨w.heap.size, 0, none⟩) n n, .slice none 0 0, .slice none 0 0] 51)) := (Below.refl _ _).alloc (Nat.le_refl _) _
  have hl1 : (w2.alloc (.cells #[.map none, .slice (some ⟨w.heap.size, 0, none⟩) n n, .slice none 0 0, .slice none 0 0] 51)).cell? ⟨w2.heap.size, 1, none⟩ = some (.slice (some ⟨w.heap.size, 0, none⟩) n n) := by simp
  have hl3 : (w2.alloc (.cells #[.map none, .slice (some ⟨w.heap.size, 0, none⟩) n n, .slice none 0 0, .slice none 0 0] 51)).cell? ⟨w2.heap.size, 3, none⟩ = some (.slice none 0 0) := by simp
  have hlf : (w2.alloc (.cells #[.map none, .slice (some ⟨w.heap.size, 0, none⟩) n n, .slice none 0 0, .slice none 0 0] 51)).frozen? ⟨w2.heap.size, 3, none⟩ = false := by simp
  have hs3 : (w2.alloc (.cells #[.map none, .slice (some ⟨w.heap.size, 0, none⟩) n n, .slice none 0 0, .slice none 0 0] 51)).heap.size = w2.heap.size + 1 := by simp
  generalize w2.alloc (.cells #[.map none, .slice (some ⟨w.heap.size, 0, none⟩) n n, .slice none 0 0, .slice none 0 0] 51) = w3 at *
  have hp4 := pairs_zero w3
  rw [hs3] at hp4
  have hb4 : Below w3.heap.size w3 (w3.alloc (.cells #[.int .i32 0, .int .i32 0] 55)) := (Below.refl _ _).alloc (Nat.le_refl _) _
  have hl14 := (hb4.cell (p := ⟨w2.heap.size, 1, none⟩) (by show w2.heap.size < _; omega)).trans hl1
  have hl34 := (hb4.cell (p := ⟨w2.heap.size, 3, none⟩) (by show w2.heap.size < _; omega)).trans hl3
  have hlf4 := (hb4.frozen (p := ⟨w2.heap.size, 3, none⟩) (by show w2.heap.size < _; omega)).trans hlf
  have hb24 : Below w2.heap.size w2 (w3.alloc (.cells #[.int .i32 0, .int .i32 0] 55)) := hb3.trans (hb4.mono (by omega))
  generalize w3.alloc (.cells #[.int .i32 0, .int .i32 0] 55) = w4 at *
  have hadj4 := hadj2.below hb24
  have hM4 := hM.below hb24 hM1
  have hbw4 : Below w.heap.size w w4 := hbw.trans (hb24.mono (by omega))
  clear hb3 hb4 hl1 hl3 hlf hs3 hadj2 hM hbw hb24
  generalize w2.heap.size = lb at *
  refine (onCycle_fresh lb w.heap.size n adj (some ⟨lb + 1, 0, none⟩) 1 [(0, 0)] w4 hn1 hn2 (by simp) (fun p hp => by simp at hp; subst hp; exact ⟨by show 0 < n; omega, by show 0 < n; omega⟩) hp4 (fun y hy => by simp at hy; subst hy; simp) hadj4 hl14 hl34 hlf4).mono ?_
  rintro e w5 ⟨cb, c, rfl, hl5, hcp, hfin, hb5⟩
  have hM5 := hM4.below hb5 hM1
  have hbw5 : Below w.heap.size w w5 := hbw4.trans (hb5.mono (by omega))
  have hl5b := World.block_lt_of_cell? w5 _ hl5
  simp only at hl5b
  have key : ∀ u v, u < n → v < n → (c u == c v) = (R u v && R v u) := fun u v hu hv => by
    rw [Bool.eq_iff_iff]
    simp only [beq_iff_eq, Bool.and_eq_true, hfin u v hu hv, hR u v hu hv, hR v u hv hu]
  have HK : Hid (∀ u v, u < n → v < n → (c u == c v) = (R u v && R v u)) := key
  clear hb5 hbw4 hM4 hadj4 hl14 hl34 hlf4 hp4 hR hfin key
  go_wp2_with fail
  go_loopw [9] (fun i wr => ∃ u m : Nat, u ≤ n ∧ i = .int .i64 u ∧ wr = w5.drewN m) (fun i _ => n - (intOf i).toNat)
  case atStart => exact ⟨0, 0, Nat.zero_le _, rfl, rfl⟩
  case round =>
    obtain ⟨u, m0, hu, rfl, rfl⟩ := hrel
    by_cases hun : u < n
    · go_wp2_with fail
      go_loopw [10] (fun i wr => ∃ v m : Nat, v ≤ n ∧ i = .int .i64 v ∧ wr = w5.drewN m) (fun i _ => n - (intOf i).toNat)
      case atStart => exact ⟨0, m0, Nat.zero_le _, rfl, rfl⟩
      case round =>
        obtain ⟨v, m, hv, rfl, rfl⟩ := hrel
        by_cases hvn : v < n
        · have e1 := hcp.2 u hun
          have e2 := hcp.2 v hvn
          have e3 := hM5.2.1 u hun
          have e4 := hM5.2.1 v hvn
          have e5 := hM5.2.2 u v hun hvn
          have e6 := hM5.2.2 v u hvn hun
          have hui : (u : Int) < (n : Int) := by omega
          have hvi : (v : Int) < (n : Int) := by omega
          have hk := HK.out u v hun hvn
          clear hcp hM5
          cases h1 : R u v with
          | false =>
            simp only [h1, Bool.false_and] at hk e5
            go_wp2_with fail
            go_quiet (fail)
            go_wp2_with fail
            go_roundw
            case rel => exact ⟨v + 1, _, by omega, by go_num, rfl⟩
            case measure => simp [intOf]; omega
          | true =>
            simp only [h1, Bool.true_and] at hk e5
            cases h2 : R v u with
            | false =>
              simp only [h2] at hk e6
              go_wp2_with fail
              go_quiet (fail)
              go_wp2_with fail
              go_roundw
              case rel => exact ⟨v + 1, _, by omega, by go_num, rfl⟩
              case measure => simp [intOf]; omega
            | true =>
              simp only [h2] at hk e6
              go_wp2_with fail
              go_quiet (fail)
              go_wp2_with fail
              go_roundw
              case rel => exact ⟨v + 1, _, by omega, by go_num, rfl⟩
              case measure => simp [intOf]; omega
        · go_wp2_with fail
          go_roundw
          case rel => exact ⟨u + 1, m, by omega, by go_num, rfl⟩
          case measure => simp [intOf]; omega
    · go_wp2_with fail
      go_ret
      exact ⟨rfl, below_drewN hbw5 _⟩
end Go.Proofs.Ybulkawqg
