/-
  slices.Index, slices.Contains at []int32: what each call answers; it writes nothing.
-/
import Derived.Test.YbulkawqgRows
import Derived.WalkKit
import Derived.WalkSpells
import Derived.WalkLawsBesides
import Derived.Deep.OwnRows
import Derived.Deep.LoopGhost
namespace Go.Proofs.Ybulkawqg
open Go.RowKit

/-- The place of x in a list, counted from k; -1: it is not there. -/
def idx (x : Int) : List Int → Nat → Int
  | [], _ => -1
  | y :: ys, k => if x = y then k else idx x ys (k + 1)

theorem idx_yes {x : Int} {zs : List Int} {k : Nat} (h : k < zs.length) (e : x = zs[k]) (n : Nat) : idx x (zs.drop k) n = n := by
  rw [List.drop_eq_getElem_cons h]; simp [idx, e]
theorem idx_no {x : Int} {zs : List Int} {k : Nat} (h : k < zs.length) (e : ¬ x = zs[k]) (n : Nat) : idx x (zs.drop k) n = idx x (zs.drop (k + 1)) (n + 1) := by
  rw [List.drop_eq_getElem_cons h]; simp [idx, e]
theorem idx_nonneg (x : Int) : ∀ (zs : List Int) (k : Nat), decide (0 ≤ idx x zs k) = zs.contains x
  | [], _ => by simp [idx]
  | y :: ys, k => by
    by_cases h : x = y
    · simp [idx, h]
    · have := idx_nonneg x ys (k + 1)
      simp only [idx, if_neg h, this]
      simp [h]

/-- A slice of int32 in memory: its address and the numbers that it holds. -/
def RowI (w : World) (ao : Option Addr) (zs : List Int) : Prop :=
  ∀ j, j < zs.length → ∃ b off, ao = some ⟨b, off, none⟩ ∧ w.cell? ⟨b, off + j, none⟩ = some (.int .i32 (zs.getD j 0))

set_option maxHeartbeats 400000 in
theorem index_any (ao : Option Addr) (len cap : Nat) (zs : List Int) (x : Int) (w : World) (hl : zs.length = len) (hm : len ≤ 1000000) (hc : RowI w ao zs) :
    Calls Yba.prog 23 #[.slice ao len cap, .int .i32 x] w fun e w' => e = .returned (.int .i64 (idx x zs 0)) ∧ w' = w := by
  subst hl
  unfold RowI at hc
  go_enter Yba.func23, Yba.ntmps23
  go_wp2
  go_loop [8] (fun i => ∃ k : Nat, k ≤ zs.length ∧ i = .int .i64 k ∧ Hid (idx x zs 0 = idx x (zs.drop k) k)) (fun i => zs.length - (intOf i).toNat)
  case atStart => exact ⟨0, Nat.zero_le _, rfl, rfl⟩
  case round =>
    obtain ⟨k, hk, rfl, hi⟩ := hrel
    by_cases hlt : k < zs.length
    · obtain ⟨b, off, hao, hcell⟩ := hc k hlt
      subst hao
      clear hc
      go_wp2
      · have he : (x == zs[k]) = true := by assumption
        have e2 : idx x zs 0 = (k : Int) := hi.out.trans (idx_yes hlt (by simpa using he) k)
        go_ret
        exact ⟨by rw [e2]; rfl, rfl⟩
      · have he : (x == zs[k]) = false := by assumption
        have e2 : idx x zs 0 = idx x (zs.drop (k + 1)) (k + 1) := hi.out.trans (idx_no hlt (by simpa using he) k)
        go_round
        case rel => exact ⟨k + 1, by omega, by go_num, e2⟩
        case measure => simp [intOf]; omega
    · have e2 : Hid (idx x zs 0 = -1) := hi.out.trans (by rw [List.drop_of_length_le (by omega)]; rfl)
      go_wp2
      go_ret
      exact ⟨by rw [e2.out]; rfl, rfl⟩

set_option maxHeartbeats 400000 in
theorem contains_any (ao : Option Addr) (len cap : Nat) (zs : List Int) (x : Int) (w : World) (hl : zs.length = len) (hm : len ≤ 1000000) (hc : RowI w ao zs) :
    Calls Yba.prog 21 #[.slice ao len cap, .int .i32 x] w fun e w' => e = .returned (.bool (decide (x ∈ zs))) ∧ w' = w := by
  have hr := idx_nonneg x zs 0
  have HL : Hid (zs.length = len) := hl
  clear hl
  go_enter Yba.func21, Yba.ntmps21
  go_wp2_with (go_at_call 23; refine (index_any _ _ _ _ _ _ HL.out hm hc).mono ?_; rintro e w' ⟨rfl, rfl⟩)
  go_ret
  exact ⟨rfl, rfl⟩

end Go.Proofs.Ybulkawqg
