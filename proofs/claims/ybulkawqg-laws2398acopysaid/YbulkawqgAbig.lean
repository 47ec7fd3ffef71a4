/-
  zzs2398abig.
-/
import Derived.Test.YbulkawqgAmem
namespace Go.Proofs.Ybulkawqg.A
open Go.RowKit

set_option maxRecDepth 100000 in
set_option maxHeartbeats 1600000 in
theorem abig_any (z0 z1 z2 z3 z4 : Int) (aA aB aC : Option Addr) (la lb lc cA cB cC : Nat) (w : World) :
    Calls Yba.prog 8 #[.agg #[.int .i64 z0, .int .i64 z1, .int .i64 z2, .int .i64 z3, .int .i64 z4, .slice aA la cA, .slice aB lb cB, .slice aC lc cC]] w fun e w' =>
      ∃ b, e = .returned (.bool b) ∧ (b = true ↔ (1024 < la ∨ 1024 < lb ∨ 1024 < lc)) ∧ Below w.heap.size w w' := by
  by_cases ha : 1024 < la
  · have d1 : decide (1024 < (la : Int)) = true := by simp; omega
    go_enter Yba.func8, Yba.ntmps8
    go_wp2_with fail
    go_ret
    exact ⟨_, rfl, by simp [ha], (Below.refl _ _).alloc (Nat.le_refl _) _⟩
  by_cases hb : 1024 < lb
  · have d1 : decide (1024 < (la : Int)) = false := by simp; omega
    have d2 : decide (1024 < (lb : Int)) = true := by simp; omega
    go_enter Yba.func8, Yba.ntmps8
    go_wp2_with fail
    go_ret
    exact ⟨_, rfl, by simp [hb], (Below.refl _ _).alloc (Nat.le_refl _) _⟩
  by_cases hc : 1024 < lc
  · have d1 : decide (1024 < (la : Int)) = false := by simp; omega
    have d2 : decide (1024 < (lb : Int)) = false := by simp; omega
    have d3 : decide (1024 < (lc : Int)) = true := by simp; omega
    go_enter Yba.func8, Yba.ntmps8
    go_wp2_with fail
    go_ret
    exact ⟨_, rfl, by simp [hc], (Below.refl _ _).alloc (Nat.le_refl _) _⟩
  · have d1 : decide (1024 < (la : Int)) = false := by simp; omega
    have d2 : decide (1024 < (lb : Int)) = false := by simp; omega
    have d3 : decide (1024 < (lc : Int)) = false := by simp; omega
    go_enter Yba.func8, Yba.ntmps8
    go_wp2_with fail
    go_ret
    exact ⟨_, rfl, by simp [ha, hb, hc], (Below.refl _ _).alloc (Nat.le_refl _) _⟩
end Go.Proofs.Ybulkawqg.A
