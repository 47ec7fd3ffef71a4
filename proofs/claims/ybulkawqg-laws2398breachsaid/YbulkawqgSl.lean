/-
  slices.Clone and slices.Equal at []int32.
-/
import Derived.Test.YbulkawqgCyc
namespace Go.Proofs.Ybulkawqg
open Go.RowKit

theorem cells_row {c : Nat → Int} {n : Nat} {w : World} {g : Nat} (h : ∀ u, u < n → w.cell? ⟨g, u, none⟩ = some (.int .i32 (c u))) :
    ∀ j y, ((List.range n).map fun u => Value.int .i32 (c u))[j]? = some y → w.cell? ((⟨g, 0, none⟩ : Addr).add j) = some y := by
  intro j y hj
  have hadd : (⟨g, 0, none⟩ : Addr).add j = ⟨g, j, none⟩ := by unfold Addr.add; split <;> simp_all
  rw [hadd]
  simp only [List.getElem?_map, Option.map_eq_some_iff] at hj
  obtain ⟨u, hu, rfl⟩ := hj
  obtain ⟨hlt, rfl⟩ := List.getElem?_eq_some_iff.1 hu
  simp at hlt
  simp [h j hlt]

set_option maxRecDepth 100000 in
set_option maxHeartbeats 400000 in
theorem clone_any (cb n : Nat) (c : Nat → Int) (w : World) (hn1 : 1 ≤ n) (hn : n ≤ 12) (hcp : CompAt w cb n c) :
    Calls Yba.prog 16 #[.slice (some ⟨cb, 0, none⟩) n n] w fun e w' => ∃ g cap, e = .returned (.slice (some ⟨g, 0, none⟩) n cap) ∧ w.heap.size ≤ g ∧ CompAt w' g n c ∧ Below w.heap.size w w' := by
  have heq := fun wx a l cc => Lib.run_eql_slice_nil (P := Yba.prog) wx 49 21 a l cc 0 0 Yba.underlying49
  obtain ⟨i0, hi, hz0, hz1, hz2⟩ := info_parts Yba.info21
  go_enter Yba.func16, Yba.ntmps16
  go_wp2_with (at_builtin; refine wpList_append_lies _ rfl _ _ 49 rfl w.heap.size 21 i0 (.int .i32 0) 1 4 Yba.underlying49 hi hz0 hz1 hz2 rfl (by decide) _ 0 [] rfl ?hown ⟨cb, 0, none⟩ n n ((List.range n).map fun u => Value.int .i32 (c u)) rfl (by simp) ?hnews ?h1 (by omega) ?h63 ?hby ?hbase (w.heap.size + 1) ?hH ?_)
  case hown => exact World.ownsRow_made w _ 0 (Nat.le_refl _) (Nat.zero_le _) (by simp)
  case hnews => exact cells_row (fun u hu => cell_alloc (hcp.2 u hu) _)
  case h1 => intro y hy; simp at hy; obtain ⟨u, _, rfl⟩ := hy; rfl
  case h63 => unfold maxLen; omega
  case hby => omega
  case hbase => simp
  case hH => simp
  intro g cap w1 hown hgrow hat hlt
  have hb1 : Below w.heap.size w w1 := ((Below.refl _ _).alloc (Nat.le_refl _) _).grown hgrow (by simp) (fun q hq => by simp [Value.ownBlock] at hq; omega)
  have hg := (hown.lt g rfl).1
  have hc1 : CompAt w1 g n c := ⟨hlt, fun u hu => by
    have := hown.cells (g := g) rfl u (.int .i32 (c u)) (by simp [hu])
    have hadd : (⟨g, 0, none⟩ : Addr).add u = ⟨g, u, none⟩ := by unfold Addr.add; split <;> simp_all
    rw [hadd] at this; exact this⟩
  clear hown hgrow hat heq
  go_wp2
  go_ret
  exact ⟨g, cap, rfl, hg, hc1, hb1⟩

set_option maxRecDepth 100000 in
set_option maxHeartbeats 400000 in
theorem equal_any (a b n ca cb : Nat) (c : Nat → Int) (w : World) (hn : n ≤ 12) (h1 : CompAt w a n c) (h2 : CompAt w b n c) :
    Calls Yba.prog 17 #[.slice (some ⟨a, 0, none⟩) n ca, .slice (some ⟨b, 0, none⟩) n cb] w fun e w' => e = .returned (.bool true) ∧ Below w.heap.size w w' := by
  go_enter Yba.func17, Yba.ntmps17
  go_wp2
  go_loopw [13] (fun i wr => ∃ k : Nat, k ≤ n ∧ i = .int .i64 k ∧ ∃ m, wr = w.drewN m) (fun i _ => n - (intOf i).toNat)
  case atStart => exact ⟨0, Nat.zero_le _, rfl, 0, rfl⟩
  case round =>
    obtain ⟨k, hk, rfl, m, rfl⟩ := hrel
    by_cases hlt : k < n
    · have c1 := h1.2 k hlt
      have c2 := h2.2 k hlt
      have hki : (k : Int) < (n : Int) := by omega
      go_wp2_with fail
      go_quiet (fail)
      go_wp2
      go_roundw
      case rel => exact ⟨k + 1, by omega, by go_num, _, rfl⟩
      case measure => simp [intOf]; omega
    · go_wp2
      go_ret
      exact ⟨rfl, below_drewN (Below.refl _ _) _⟩

end Go.Proofs.Ybulkawqg
