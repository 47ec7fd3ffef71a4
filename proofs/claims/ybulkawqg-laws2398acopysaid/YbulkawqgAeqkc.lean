/-
  zzs2398aeqkc: it answers true where the two hold the same.
-/
import Derived.Test.YbulkawqgAbuild
namespace Go.Proofs.Ybulkawqg.A
open Go.RowKit

theorem kcIn_of_own {w : World} {B c : Nat} {x : Option Addr} {qs : List Quad} (h : w.ownsRow B 37 4 (.slice x qs.length c) qs.length (q4 qs)) : KcIn w x qs := by
  intro j hj
  rcases h.2 with ⟨e, h0⟩ | ⟨g, cap, cur, e, hb, hg, rest⟩
  · omega
  · have ex : x = some ⟨g, 0, none⟩ := by simp at e; exact e.1
    subst ex
    have hcell : ∀ r, r < 4 → w.cell? ⟨g, j * 4 + r, none⟩ = some (qc (qs.getD j quad0) r) := fun r hr => by
      have := h.cellAt (j * 4 + r) (by omega)
      rw [this]
      have hlt : j * 4 + r < qs.length * 4 := by omega
      unfold q4
      simp [hlt, qf_at qs j r hr]
    refine ⟨g, 0, rfl, (Array.getElem?_eq_some_iff.1 hg).1, ?_, ?_, ?_, ?_⟩
    · rw [Nat.zero_add]; exact hcell 0 (by decide)
    · rw [Nat.zero_add]; exact hcell 1 (by decide)
    · rw [Nat.zero_add]; exact hcell 2 (by decide)
    · rw [Nat.zero_add]; exact hcell 3 (by decide)

set_option maxRecDepth 100000 in
set_option maxHeartbeats 1600000 in
theorem aeqkc_any (xa ao : Option Addr) (ca cap : Nat) (qs : List Quad) (w : World) (hm : qs.length ≤ 1024) (ha : KcIn w xa qs) (hb0 : KcIn w ao qs) :
    Calls Yba.prog 20 #[.slice xa qs.length ca, .slice ao qs.length cap] w fun e w' => e = .returned (.bool true) ∧ Below w.heap.size w w' := by
  go_enter Yba.func20, Yba.ntmps20
  go_wp2
  go_loopw [14] (fun i wr => ∃ k : Nat, k ≤ qs.length ∧ i = .int .i64 k ∧ Below w.heap.size w wr) (fun i _ => qs.length - (intOf i).toNat)
  case atStart => exact ⟨0, Nat.zero_le _, rfl, Below.refl _ _⟩
  case round =>
    obtain ⟨k, hk, rfl, hb⟩ := hrel
    by_cases hlt : k < qs.length
    · obtain ⟨b, off, hao, hbs, c0, c1, c2, c3⟩ := hb0 k hlt
      obtain ⟨b', off', hxa, hbs', e0, e1, e2, e3⟩ := ha k hlt
      rw [← hb.cell (p := ⟨b, _, none⟩) hbs] at c0 c1 c2 c3
      rw [← hb.cell (p := ⟨b', _, none⟩) hbs'] at e0 e1 e2 e3
      subst hao
      subst hxa
      generalize qs.getD k quad0 = q at *
      obtain ⟨z, bo, st, m⟩ := q
      simp only at c0 c1 c2 c3 e0 e1 e2 e3
      have hki : (k : Int) < (qs.length : Int) := by omega
      have hws := hb.size
      clear ha hb0
      go_wp2_with fail
      have g0 : (wr.alloc (.cells #[.int .i64 z, .bool bo, .string st, .int .i64 m] 71)).cell? ⟨wr.heap.size, 0, none⟩ = some (.int .i64 z) := by simp
      have g1 : (wr.alloc (.cells #[.int .i64 z, .bool bo, .string st, .int .i64 m] 71)).cell? ⟨wr.heap.size, 1, none⟩ = some (.bool bo) := by simp
      have g2 : (wr.alloc (.cells #[.int .i64 z, .bool bo, .string st, .int .i64 m] 71)).cell? ⟨wr.heap.size, 2, none⟩ = some (.string st) := by simp
      have g3 : (wr.alloc (.cells #[.int .i64 z, .bool bo, .string st, .int .i64 m] 71)).cell? ⟨wr.heap.size, 3, none⟩ = some (.int .i64 m) := by simp
      replace e0 := cell_al (.cells #[.int .i64 z, .bool bo, .string st, .int .i64 m] 71) e0
      replace e1 := cell_al (.cells #[.int .i64 z, .bool bo, .string st, .int .i64 m] 71) e1
      replace e2 := cell_al (.cells #[.int .i64 z, .bool bo, .string st, .int .i64 m] 71) e2
      replace e3 := cell_al (.cells #[.int .i64 z, .bool bo, .string st, .int .i64 m] 71) e3
      have hb2 : Below w.heap.size w (wr.alloc (.cells #[.int .i64 z, .bool bo, .string st, .int .i64 m] 71)) := hb.alloc hb.size _
      generalize wr.alloc (.cells #[.int .i64 z, .bool bo, .string st, .int .i64 m] 71) = w2 at *
      clear hb c0 c1 c2 c3
      go_quiet (fail)
      go_wp2
      go_roundw
      case rel => exact ⟨k + 1, by omega, by go_num, below_drewN hb2 _⟩
      case measure => simp [intOf]; omega
    · go_wp2
      go_ret
      exact ⟨rfl, hb⟩
end Go.Proofs.Ybulkawqg.A
