/-
  zzs2398aints, zzs2398akinds: new slices with what the old ones hold.
-/
import Derived.Test.YbulkawqgRows
import Derived.WalkKit
import Derived.WalkSpells
import Derived.WalkLawsBesides
import Derived.Deep.OwnRows
import Derived.Deep.LoopGhost
import Derived.Deep.AppendLies
import Derived.Deep.RegionHeld3
import Derived.Deep.QuietTactic
import Derived.BigQuiet
namespace Go.Proofs.Ybulkawqg.A
open Go.RowKit

theorem info3 : (Yba.prog.info? 3).map (fun i => (i.zero, i.size, i.bytes)) = some (some (.int .i64 0), 1, 8) := by kernel_rfl
theorem info37 : (Yba.prog.info? 37).map (fun i => (i.zero, i.size, i.bytes)) = some (some (.agg #[.int .i64 0, .bool false, .string ⟨#[]⟩, .int .i64 0]), 4, 40) := by kernel_rfl

/-- A slice of integers in memory. -/
def IntsIn (w : World) (ao : Option Addr) (zs : List Int) : Prop :=
  ∀ j, j < zs.length → ∃ b off, ao = some ⟨b, off, none⟩ ∧ b < w.heap.size ∧ w.cell? ⟨b, off + j, none⟩ = some (.int .i64 (zs.getD j 0))
def i64s (zs : List Int) : List Value := zs.map fun z => .int .i64 z

/-- From a row whose cells are known to what is owned. -/
theorem own_of_row {w : World} {B g n cap : Nat} {t : TypeId} {size : Nat} {f : Nat → Value} (h : w.rowIs g t (cap * size) f) (hB : B ≤ g) (hn : n ≤ cap) (hc : cap ≤ maxLen) :
    w.ownsRow B t size (.slice (some ⟨g, 0, none⟩) n cap) n ((List.range (n * size)).map f) := by
  obtain ⟨c, hb, hs, hf⟩ := h
  refine ⟨by simp, .inr ⟨g, cap, c, rfl, hB, hb, hn, hc, hs, ?_⟩⟩
  have hle : n * size ≤ cap * size := Nat.mul_le_mul_right _ hn
  apply List.ext_getElem?
  intro i
  rw [List.getElem?_take]
  by_cases hi : i < n * size
  · have := hf i (by omega)
    simp [hi, this]
  · simp [hi]

theorem i64s_range (zs : List Int) : (List.range (zs.length * 1)).map (fun i => Value.int .i64 (zs.getD i 0)) = i64s zs := by
  apply List.ext_getElem?
  intro i
  by_cases hi : i < zs.length
  · simp [i64s, hi]
  · simp [i64s, hi]

set_option maxHeartbeats 400000 in
theorem aints_any (ao : Option Addr) (len cap : Nat) (zs : List Int) (w : World) (hl : zs.length = len) (hm : len ≤ 1024) (hnil : ao = none → len = 0) (hc : IntsIn w ao zs) :
    Calls Yba.prog 19 #[.slice ao len cap] w fun e w' => ∃ v, e = .returned v ∧ w'.ownsRow w.heap.size 3 1 v zs.length (i64s zs) ∧ Below w.heap.size w w' := by
  subst hl
  have heq := fun wx a l cc => Lib.run_eql_slice_nil (P := Yba.prog) wx 23 3 a l cc 0 0 Yba.underlying23
  have hmk := run_make_row' (P := Yba.prog) 23 3 (.int .i64 0) 8 Yba.underlying23 info3 rfl .i64 .i64 zs.length (by omega) (by omega)
  cases ao with
  | none =>
    have hz : zs = [] := List.eq_nil_of_length_eq_zero (hnil rfl)
    go_enter Yba.func19, Yba.ntmps19
    go_wp2
    go_ret
    exact ⟨_, rfl, World.ownsRow_nil _ _ _ _, Below.refl _ _⟩
  | some ad =>
    clear hnil
    go_enter Yba.func19, Yba.ntmps19
    go_wp2
    clear hmk heq
    have hr0 := World.rowIs_made w (.int .i64 0) zs.length 3
    have hb0 : Below w.heap.size w (w.alloc (.cells (madeCells #[.int .i64 0] zs.length) 3)) := (Below.refl _ _).alloc (Nat.le_refl _) _
    go_loopw [13] (fun i wr => ∃ k : Nat, k ≤ zs.length ∧ i = .int .i64 k ∧ wr.rowIs w.heap.size 3 zs.length (fun j => .int .i64 (if j < k then zs.getD j 0 else 0)) ∧ Below w.heap.size w wr) (fun i _ => zs.length - (intOf i).toNat)
    case atStart => exact ⟨0, Nat.zero_le _, rfl, hr0.congr (fun i _ => by simp), hb0⟩
    case round =>
      clear hr0 hb0
      obtain ⟨k, hk, rfl, hr, hb⟩ := hrel
      by_cases hlt : k < zs.length
      · obtain ⟨b, off, hao, hbs, c1⟩ := hc k hlt
        rw [← hb.cell (p := ⟨b, _, none⟩) hbs] at c1
        simp at hao
        subst hao
        have c2 := hr.cell hlt
        have c3 := hr.frozen k
        clear hc
        go_wp2
        go_roundw
        case rel => exact ⟨k + 1, by omega, by go_num, (hr.set k _).congr (fun j _ => by
          by_cases e : j = k
          · subst e; simp [hlt]
          · simp only [if_neg e]
            by_cases e2 : j < k
            · rw [if_pos e2, if_pos (by omega)]
            · rw [if_neg e2, if_neg (by omega)]), hb.setCell (Nat.le_refl _) _⟩
        case measure => simp [intOf]; omega
      · have hkn : k = zs.length := by omega
        subst hkn
        have ho : Hid (wr.ownsRow w.heap.size 3 1 (.slice (some ⟨w.heap.size, 0, none⟩) zs.length zs.length) zs.length (i64s zs)) := by
          have := own_of_row (B := w.heap.size) (n := zs.length) (cap := zs.length) (size := 1) (f := fun i => .int .i64 (zs.getD i 0)) (by
            rw [Nat.mul_one]
            exact hr.congr (fun j hj => by simp [hj])) (Nat.le_refl _) (Nat.le_refl _) (by unfold maxLen; omega)
          rw [i64s_range] at this
          exact this
        clear hr
        go_wp2
        go_ret
        exact ⟨_, rfl, ho.out, hb⟩
end Go.Proofs.Ybulkawqg.A
