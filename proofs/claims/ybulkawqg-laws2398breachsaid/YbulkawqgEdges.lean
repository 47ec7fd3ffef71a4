/-
  zzs2398bedges: it hands back a new slice of pairs, each number below n.
-/
import Derived.Test.YbulkawqgGraph
import Derived.Deep.RegionHeld3
namespace Go.Proofs.Ybulkawqg
open Go.RowKit

theorem Yba.info55 : (Yba.prog.info? 55).map (fun i => (i.zero, i.size, i.bytes)) = some (some (.agg #[.int .i32 0, .int .i32 0]), 2, 8) := by kernel_rfl

/-- The cells of a row of pairs. -/
def prs (l : List (Nat × Nat)) : List Value := l.flatMap fun p => [.int .i32 (p.1 : Int), .int .i32 (p.2 : Int)]
theorem length_prs (l : List (Nat × Nat)) : (prs l).length = l.length * 2 := by
  induction l with
  | nil => rfl
  | cons p l ih => simp [prs] at ih ⊢; omega

theorem prs_snoc (l : List (Nat × Nat)) (u v : Nat) : prs (l ++ [(u, v)]) = prs l ++ [.int .i32 (u : Int), .int .i32 (v : Int)] := by simp [prs]

theorem wrap_i32_small {x : Int} (h0 : 0 ≤ x) (h1 : x ≤ 1000000) : IntKind.i32.wrap x = x := by
  rw [IntKind.wrap_i32]; omega
theorem wrap_i64_small {x : Int} (h0 : 0 ≤ x) (h1 : x ≤ 1000000) : IntKind.i64.wrap x = x := by
  rw [IntKind.wrap_i64]; omega

set_option maxRecDepth 100000 in
set_option maxHeartbeats 1600000 in
theorem edges_any (n : Nat) (ao : Option Addr) (len cap : Nat) (A C : Nat → Int) (w : World) (hn : 1 ≤ n ∧ n ≤ 12) (hlen : len ≤ 1024) (hc : EdgesIn w ao len A C) :
    Calls Yba.prog 14 #[.int .i64 n, .slice ao len cap] w fun e w' => ∃ v ps, e = .returned v ∧ (∀ p, p ∈ ps → p.1 < n ∧ p.2 < n) ∧ ps.length ≤ 1024 ∧ w'.ownsRow w.heap.size 55 2 v ps.length (prs ps) ∧ Below w.heap.size w w' := by
  obtain ⟨i0, hi, hz0, hz1, hz2⟩ := info_parts Yba.info55
  obtain ⟨hn1, hn2⟩ := hn
  go_enter Yba.func14, Yba.ntmps14
  go_wp2_with (at_make; refine wpList_make_own _ rfl _ _ 44 rfl w.heap.size 55 i0 _ 2 Yba.underlying44 hi hz0 hz1 .i64 .i64 _ len rfl rfl rfl (by rw [hz2]; omega) (by unfold maxLen; omega) (Nat.le_refl _) ?_; intro w1 hown hgrow)
  have hb1 : Below w.heap.size w w1 := (Below.refl _ _).grown hgrow (Nat.le_refl _) (by simp)
  clear hgrow
  go_loopw [5, 13] (fun v i wr => ∃ ps : List (Nat × Nat), ps.length ≤ len ∧ i = .int .i64 ps.length ∧ (∀ p, p ∈ ps → p.1 < n ∧ p.2 < n) ∧ wr.ownsRow w.heap.size 55 2 v ps.length (prs ps) ∧ Below w.heap.size w wr) (fun _ i _ => len - (intOf i).toNat)
  case atStart => exact ⟨[], Nat.zero_le _, rfl, by simp, hown, hb1⟩
  case round =>
    clear hown hb1
    obtain ⟨ps, hk, rfl, hlo, hown, hb⟩ := hrel
    by_cases hlt : ps.length < len
    · obtain ⟨⟨hA0, hA1⟩, ⟨hC0, hC1⟩, b, off, hao, hbs, c1, c2⟩ := hc _ hlt
      rw [← hb.cell (p := ⟨b, _, none⟩) hbs] at c1 c2
      subst hao
      clear hc
      generalize A ps.length = x at *
      generalize C ps.length = y at *
      have hu0 : 0 ≤ x % (n : Int) := Int.emod_nonneg _ (by omega)
      have hu1 : x % (n : Int) < n := Int.emod_lt_of_pos _ (by omega)
      have hv0 : 0 ≤ y % (n : Int) := Int.emod_nonneg _ (by omega)
      have hv1 : y % (n : Int) < n := Int.emod_lt_of_pos _ (by omega)
      obtain ⟨u, hu⟩ := Int.eq_ofNat_of_zero_le hu0
      obtain ⟨v, hv⟩ := Int.eq_ofNat_of_zero_le hv0
      rw [hu] at hu1
      rw [hv] at hv1
      clear hu0 hv0
      have ht1 : x.tmod (n : Int) = (u : Int) := by rw [Int.tmod_eq_emod_of_nonneg hA0]; exact hu
      have ht2 : y.tmod (n : Int) = (v : Int) := by rw [Int.tmod_eq_emod_of_nonneg hC0]; exact hv
      have hw1 : IntKind.i32.wrap (u : Int) = (u : Int) := wrap_i32_small (by omega) (by omega)
      have hw2 : IntKind.i32.wrap (v : Int) = (v : Int) := wrap_i32_small (by omega) (by omega)
      have hw3 : IntKind.i64.wrap (u : Int) = (u : Int) := wrap_i64_small (by omega) (by omega)
      have hw4 : IntKind.i64.wrap (v : Int) = (v : Int) := wrap_i64_small (by omega) (by omega)
      have hw5 : IntKind.i64.wrap x = x := wrap_i64_small (by omega) (by omega)
      have hw6 : IntKind.i64.wrap y = y := wrap_i64_small (by omega) (by omega)
      have hn0 : ¬ n = 0 := by omega
      clear hu hv
      have HO : Hid (wr.ownsRow w.heap.size 55 2 u5 ps.length (prs ps)) := hown
      clear hown
      have hub : u5.ownBlock ≠ some wr.heap.size := fun e => by have := (HO.out.lt _ e).2; omega
      go_wp2_with fail
      generalize hE : wr.alloc (.cells #[.int .u8 x, .int .u8 y] 67) = w2 at *
      have e0 : w2.cell? ⟨wr.heap.size, 0, none⟩ = some (.int .u8 x) := by rw [← hE]; simp
      have e1 : w2.cell? ⟨wr.heap.size, 1, none⟩ = some (.int .u8 y) := by rw [← hE]; simp
      have hsz : w2.heap.size = wr.heap.size + 1 := by rw [← hE]; simp
      have HO2 : Hid (w2.ownsRow w.heap.size 55 2 u5 ps.length (prs ps)) := by rw [← hE]; exact HO.out.alloc _
      have hb2 : Below w.heap.size w w2 := by rw [← hE]; exact hb.alloc hb.size _
      have hws := hb.size
      clear hE hb c1 c2 HO
      have HSZ : Hid (w2.heap.size = wr.heap.size + 1) := hsz
      clear hsz
      go_region_held3 (fun w' => w'.cell? ⟨wr.heap.size, 0, none⟩ = some (.int .u8 x) ∧ w'.cell? ⟨wr.heap.size, 1, none⟩ = some (.int .u8 y))
        (first | go_keep | (go_split_ands; refine ⟨?_, ?_⟩ <;> (rw [hgrow.cell_far _ (by simp [HSZ.out]; try omega) (Ne.symm hub)]; assumption)))
        ((refine step_append_lies _ (by rfl) _ _ 44 (by rfl) w.heap.size 55 i0 _ 2 8 Yba.underlying44 hi hz0 hz1 hz2 rfl (by decide) u5 ps.length (prs ps) (by rfl) ((HO2.out.alloc _).drew) ⟨w2.heap.size, 0, none⟩ 1 1 [.int .i32 (u : Int), .int .i32 (v : Int)] (by rfl) (by rfl) (World.news_of_block (cs := #[.int .i32 (u : Int), .int .i32 (v : Int)]) (t := 55) (fr := (0, 0)) (heap_alloc_new w2 _)) (by simp [Value.oneCell']) (by decide) (by unfold maxLen; omega) (by omega) (by simp [HSZ.out]; omega) (w2.heap.size + 1) (by simp) ?_; intro g cp1 w3 hown3 hgrow hat hlt3))
      have hb3 : Below w.heap.size w w3 := ((hb2.alloc (by rw [HSZ.out]; omega) _).drew).grown hgrow (by simp [HSZ.out]; omega) (fun q hq => (HO2.out.lt q hq).1)
      clear hgrow hat hb2 HO2
      go_wp2
      go_roundw
      case rel => exact ⟨ps ++ [(u, v)], by simp; omega, by simp, by
        intro p hp
        rcases List.mem_append.1 hp with hp | hp
        · exact hlo p hp
        · simp at hp; subst hp; exact ⟨by show u < n; omega, by show v < n; omega⟩, by rw [prs_snoc]; simpa using hown3, hb3⟩
      case measure => simp [intOf]; omega
    · have hkl : ps.length = len := by omega
      go_wp2
      go_ret
      exact ⟨_, ps, rfl, hlo, by omega, hown, hb⟩
end Go.Proofs.Ybulkawqg
