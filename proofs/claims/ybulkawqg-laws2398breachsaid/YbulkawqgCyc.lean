/-
  (*lasso).onCycle where the components are cached.
-/
import Derived.Test.YbulkawqgEdges
import Derived.Deep.QuietTactic
import Derived.BigQuiet
namespace Go.Proofs.Ybulkawqg
open Go.RowKit

/-- A slice of pairs in memory. -/
def PairsAt (w : World) (ao : Option Addr) (ps : List (Nat × Nat)) : Prop :=
  ∀ j, j < ps.length → ∃ b off, ao = some ⟨b, off, none⟩ ∧ b < w.heap.size ∧
    w.cell? ⟨b, off + j * 2, none⟩ = some (.int .i32 ((ps.getD j (0, 0)).1 : Int)) ∧ w.cell? ⟨b, off + j * 2 + 1, none⟩ = some (.int .i32 ((ps.getD j (0, 0)).2 : Int))

/-- A row of n int32. -/
def CompAt (w : World) (cb n : Nat) (c : Nat → Int) : Prop := cb < w.heap.size ∧ ∀ u, u < n → w.cell? ⟨cb, u, none⟩ = some (.int .i32 (c u))

/-- The edge is a loop, or joins two vertices of one component. -/
def hit (c : Nat → Int) (p : Nat × Nat) : Bool := (p.1 == p.2) || (c p.1 == c p.2)

theorem cell_alloc {w : World} {a : Addr} {v : Value} (h : w.cell? a = some v) (o : Obj) : (w.alloc o).cell? a = some v := by
  rw [World.cell?_alloc_lt _ _ _ (World.block_lt_of_cell? w _ h)]; exact h

theorem any_take_succ {α : Type} (f : α → Bool) (l : List α) (d : α) (k : Nat) (h : k < l.length) : (l.take (k + 1)).any f = ((l.take k).any f || f (l.getD k d)) := by
  rw [List.take_succ_eq_append_getElem h, List.any_append]; simp [h]

set_option maxRecDepth 100000 in
set_option maxHeartbeats 1600000 in
theorem onCycle_cached (lb cb n : Nat) (ao : Option Addr) (cap : Nat) (ps : List (Nat × Nat)) (c : Nat → Int) (w : World) (_hn : n ≤ 12) (hlen : ps.length ≤ 1024)
    (hlo : ∀ p, p ∈ ps → p.1 < n ∧ p.2 < n) (hp : PairsAt w ao ps) (hl : w.cell? ⟨lb, 3, none⟩ = some (.slice (some ⟨cb, 0, none⟩) n n)) (hcp : CompAt w cb n c) :
    Calls Yba.prog 15 #[.pointer (some ⟨lb, 0, none⟩), .agg #[.int .i64 1, .slice ao ps.length cap]] w fun e w' => e = .returned (.bool (ps.any (hit c))) ∧ Below w.heap.size w w' := by
  have hlb := World.block_lt_of_cell? w _ hl
  simp only at hlb
  have heq := fun wx a l cc => Lib.run_eql_slice_nil (P := Yba.prog) wx 49 21 a l cc 0 0 Yba.underlying49
  go_enter Yba.func15, Yba.ntmps15
  go_wp2_with fail
  clear heq
  have hb0 : Below w.heap.size w (w.alloc (.cells #[.int .i64 1, .slice ao ps.length cap] 54)) := (Below.refl _ _).alloc (Nat.le_refl _) _
  go_loopw [23] (fun i wr => ∃ k : Nat, k ≤ ps.length ∧ i = .int .i64 k ∧ Hid ((ps.take k).any (hit c) = false) ∧ Below w.heap.size w wr) (fun i _ => ps.length - (intOf i).toNat)
  case atStart => exact ⟨0, Nat.zero_le _, rfl, rfl, hb0⟩
  case round =>
    clear hb0
    obtain ⟨k, hk, rfl, hno, hb⟩ := hrel
    by_cases hlt : k < ps.length
    · have hsn : Hid ((ps.take (k + 1)).any (hit c) = ((ps.take k).any (hit c) || hit c (ps.getD k (0, 0)))) := any_take_succ (hit c) ps (0, 0) k hlt
      have hmem : ps.getD k (0, 0) ∈ ps := by simp [hlt]
      obtain ⟨hx, hy⟩ := hlo _ hmem
      have hany : Hid (hit c (ps.getD k (0, 0)) = true → ps.any (hit c) = true) := fun h => List.any_eq_true.2 ⟨_, hmem, h⟩
      obtain ⟨b, off, hao, hbs, c1, c2⟩ := hp k hlt
      clear hp hmem
      generalize ps.getD k (0, 0) = pr at *
      obtain ⟨x, y⟩ := pr
      simp only at hx hy c1 c2
      rw [← hb.cell (p := ⟨b, _, none⟩) hbs] at c1 c2
      subst hao
      have hcx : wr.cell? ⟨cb, x, none⟩ = some (.int .i32 (c x)) := (hb.cell (p := ⟨cb, _, none⟩) hcp.1).trans (hcp.2 x hx)
      have hcy : wr.cell? ⟨cb, y, none⟩ = some (.int .i32 (c y)) := (hb.cell (p := ⟨cb, _, none⟩) hcp.1).trans (hcp.2 y hy)
      have hcb := hcp.1
      have hl' : wr.cell? ⟨lb, 3, none⟩ = some (.slice (some ⟨cb, 0, none⟩) n n) := (hb.cell (p := ⟨lb, _, none⟩) hlb).trans hl
      have hws := hb.size
      have hxi : (x : Int) < (n : Int) := by omega
      have hyi : (y : Int) < (n : Int) := by omega
      clear hl hcp hlo
      go_wp2_with fail
      have hb2 : Below w.heap.size w (wr.alloc (.cells #[.int .i32 (x : Int), .int .i32 (y : Int)] 55)) := hb.alloc hb.size _
      have e0 : (wr.alloc (.cells #[.int .i32 (x : Int), .int .i32 (y : Int)] 55)).cell? ⟨wr.heap.size, 0, none⟩ = some (.int .i32 x) := by simp
      have e1 : (wr.alloc (.cells #[.int .i32 (x : Int), .int .i32 (y : Int)] 55)).cell? ⟨wr.heap.size, 1, none⟩ = some (.int .i32 y) := by simp
      replace hcx := cell_alloc hcx (.cells #[.int .i32 (x : Int), .int .i32 (y : Int)] 55)
      replace hcy := cell_alloc hcy (.cells #[.int .i32 (x : Int), .int .i32 (y : Int)] 55)
      replace hl' := cell_alloc hl' (.cells #[.int .i32 (x : Int), .int .i32 (y : Int)] 55)
      generalize wr.alloc (.cells #[.int .i32 (x : Int), .int .i32 (y : Int)] 55) = w2 at *
      clear hb c1 c2
      by_cases hxy : x = y
      · have hd : ((x : Int) == (y : Int)) = true := by simp [hxy]
        go_quiet (fail)
        go_wp2
        go_ret
        exact ⟨by rw [hany.out (by simp [hit, hxy])]; rfl, below_drewN hb2 _⟩
      · have hd : ((x : Int) == (y : Int)) = false := by simp; omega
        go_quiet (fail)
        go_wp2
        · have he : (c x == c y) = true := by assumption
          go_ret
          exact ⟨by rw [hany.out (by simp [hit, he])]; rfl, below_drewN hb2 _⟩
        · have he : (c x == c y) = false := by assumption
          go_roundw
          case rel => exact ⟨k + 1, by omega, by go_num, by show _ = false; rw [hsn.out, hno.out]; simp [hit, he, hxy], below_drewN hb2 _⟩
          case measure => simp [intOf]; omega
    · have hkl : k = ps.length := by omega
      have hall : Hid (ps.any (hit c) = false) := by have := hno.out; rw [hkl, List.take_length] at this; exact this
      clear hkl
      go_wp2
      go_ret
      exact ⟨by rw [hall.out]; rfl, hb⟩
end Go.Proofs.Ybulkawqg
