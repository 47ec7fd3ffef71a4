/-
  (*lasso).onCycle where no component is cached.
-/
import Derived.Test.YbulkawqgComp
namespace Go.Proofs.Ybulkawqg
open Go.RowKit

theorem cell_set {w : World} {b i : Nat} {u : Value} (h : w.cell? ⟨b, i, none⟩ = some u) (v : Value) : (w.setCell ⟨b, i, none⟩ v).cell? ⟨b, i, none⟩ = some v := by
  have hlt := World.block_lt_of_cell? w _ h
  simp only at hlt
  unfold World.cell? World.setCell at *
  simp only [Array.getElem?_modify] at *
  cases hb : w.heap[b]? with
  | none => rw [hb] at h; cases h
  | some o =>
    rw [hb] at h
    cases o <;> simp at h ⊢
    obtain ⟨h1, _⟩ := Array.getElem?_eq_some_iff.1 h
    simp [h1]

theorem CompAt.store {w : World} {cb n : Nat} {c : Nat → Int} (h : CompAt w cb n c) {a : Addr} (hne : cb ≠ a.block) (v : Value) : CompAt (w.setCell a v) cb n c :=
  ⟨by simpa [World.setCell] using h.1, fun u hu => (World.cell?_of_block (w := w) (a := ⟨cb, u, none⟩) (Below.heap_setCell _ _ _ _ hne)).trans (h.2 u hu)⟩
theorem PairsAt.store {w : World} {ao : Option Addr} {ps : List (Nat × Nat)} (h : PairsAt w ao ps) {a : Addr} (hne : ∀ x, ao = some x → x.block ≠ a.block) (v : Value) : PairsAt (w.setCell a v) ao ps := fun j hj => by
  obtain ⟨b, off, e, hlt, c1, c2⟩ := h j hj
  have hb : b ≠ a.block := hne _ e
  exact ⟨b, off, e, by simpa [World.setCell] using hlt, (World.cell?_of_block (w := w) (a := ⟨b, _, none⟩) (Below.heap_setCell _ _ _ _ hb)).trans c1, (World.cell?_of_block (w := w) (a := ⟨b, _, none⟩) (Below.heap_setCell _ _ _ _ hb)).trans c2⟩

set_option maxRecDepth 100000 in
set_option maxHeartbeats 1600000 in
theorem onCycle_fresh (lb gb n : Nat) (adj : Nat → List Nat) (ao : Option Addr) (cap : Nat) (ps : List (Nat × Nat)) (w : World) (hn1 : 1 ≤ n) (hn : n ≤ 12) (hlen : ps.length ≤ 1024)
    (hlo : ∀ p, p ∈ ps → p.1 < n ∧ p.2 < n) (hp : PairsAt w ao ps) (hpl : ∀ x, ao = some x → x.block ≠ lb) (hadj : AdjAt w gb n adj)
    (hl1 : w.cell? ⟨lb, 1, none⟩ = some (.slice (some ⟨gb, 0, none⟩) n n)) (hl3 : w.cell? ⟨lb, 3, none⟩ = some (.slice none 0 0)) (hlf : w.frozen? ⟨lb, 3, none⟩ = false) :
    Calls Yba.prog 15 #[.pointer (some ⟨lb, 0, none⟩), .agg #[.int .i64 1, .slice ao ps.length cap]] w fun e w' => ∃ cb c, e = .returned (.bool (ps.any (hit c))) ∧ w'.cell? ⟨lb, 3, none⟩ = some (.slice (some ⟨cb, 0, none⟩) n n) ∧
      CompAt w' cb n c ∧ (∀ u v, u < n → v < n → (c u = c v ↔ Plain.Reach adj u v ∧ Plain.Reach adj v u)) ∧ Below lb w w' := by
  have hlb := World.block_lt_of_cell? w _ hl3
  simp only at hlb
  have heq := fun wx a l cc => Lib.run_eql_slice_nil (P := Yba.prog) wx 49 21 a l cc 0 0 Yba.underlying49
  go_enter Yba.func15, Yba.ntmps15
  go_wp2_with fail
  have hb0 : Below w.heap.size w (w.alloc (.cells #[.int .i64 1, .slice ao ps.length cap] 54)) := (Below.refl _ _).alloc (Nat.le_refl _) _
  have hx1 : (w.alloc (.cells #[.int .i64 1, .slice ao ps.length cap] 54)).cell? ⟨w.heap.size, 1, none⟩ = some (.slice ao ps.length cap) := by simp
  have hs1 : (w.alloc (.cells #[.int .i64 1, .slice ao ps.length cap] 54)).heap.size = w.heap.size + 1 := by simp
  generalize w.alloc (.cells #[.int .i64 1, .slice ao ps.length cap] 54) = w1 at *
  refine (components_any gb n adj w1 hn1 hn (hadj.below hb0)).mono ?_
  rintro e w2 ⟨c, rfl, hcp, hfin, hb2⟩
  have hp2 := (hp.below hb0).below hb2
  have hx2 := (hb2.cell (p := ⟨w.heap.size, 1, none⟩) (by show w.heap.size < _; omega)).trans hx1
  have hl32 := ((hb2.cell (p := ⟨lb, 3, none⟩) (by show lb < _; omega)).trans (hb0.cell (p := ⟨lb, 3, none⟩) hlb)).trans hl3
  have hlf2 := ((hb2.frozen (p := ⟨lb, 3, none⟩) (by show lb < _; omega)).trans (hb0.frozen (p := ⟨lb, 3, none⟩) hlb)).trans hlf
  have hw2 : Below lb w w2 := (hb0.mono (by omega)).trans (hb2.mono (by omega))
  have hcb : w1.heap.size + 4 ≠ lb := by omega
  have hcl : w1.heap.size + 4 < w2.heap.size := hcp.1
  generalize w1.heap.size + 4 = cb at *
  have hp3 := hp2.store (a := ⟨lb, 3, none⟩) hpl (.slice (some ⟨cb, 0, none⟩) n n)
  have hcp3 := hcp.store (a := ⟨lb, 3, none⟩) hcb (.slice (some ⟨cb, 0, none⟩) n n)
  have hl33 : (w2.setCell ⟨lb, 3, none⟩ (.slice (some ⟨cb, 0, none⟩) n n)).cell? ⟨lb, 3, none⟩ = some (.slice (some ⟨cb, 0, none⟩) n n) := cell_set hl32 _
  have hx3 : (w2.setCell ⟨lb, 3, none⟩ (.slice (some ⟨cb, 0, none⟩) n n)).cell? ⟨w.heap.size, 1, none⟩ = some (.slice ao ps.length cap) :=
    (World.cell?_of_block (w := w2) (a := ⟨w.heap.size, 1, none⟩) (Below.heap_setCell _ _ _ _ (by show w.heap.size ≠ lb; omega))).trans hx2
  have hw3 : Below lb w (w2.setCell ⟨lb, 3, none⟩ (.slice (some ⟨cb, 0, none⟩) n n)) := hw2.setCell (Nat.le_refl _) _
  have hs3 : w.heap.size + 1 ≤ (w2.setCell ⟨lb, 3, none⟩ (.slice (some ⟨cb, 0, none⟩) n n)).heap.size := by have := hb2.size; simp [World.setCell]; omega
  clear hp hp2 hcp hx1 hx2 hb0 hb2 hw2 hl3 hlf hl1 hadj hs1
  go_wp2_with fail
  have hlb3 : lb < (w2.setCell ⟨lb, 3, none⟩ (.slice (some ⟨cb, 0, none⟩) n n)).heap.size := World.block_lt_of_cell? _ _ hl33
  generalize w2.setCell ⟨lb, 3, none⟩ (.slice (some ⟨cb, 0, none⟩) n n) = w3 at *
  clear heq hl32 hlf2 hx3 hpl
  have fin : ∀ (r : Bool) (wr : World), Below w3.heap.size w3 wr → ps.any (hit c) = r → ∃ cb c, Ending.returned (Value.bool r) = .returned (.bool (ps.any (hit c))) ∧ wr.cell? ⟨lb, 3, none⟩ = some (.slice (some ⟨cb, 0, none⟩) n n) ∧
      CompAt wr cb n c ∧ (∀ u v, u < n → v < n → (c u = c v ↔ Plain.Reach adj u v ∧ Plain.Reach adj v u)) ∧ Below lb w wr := fun r wr hb he =>
    ⟨cb, c, by rw [he], (hb.cell (p := ⟨lb, _, none⟩) hlb3).trans hl33, hcp3.below hb hcp3.1, hfin, hw3.trans (hb.mono (by omega))⟩
  go_loopw [23] (fun i wr => ∃ k : Nat, k ≤ ps.length ∧ i = .int .i64 k ∧ Hid ((ps.take k).any (hit c) = false) ∧ Below w3.heap.size w3 wr) (fun i _ => ps.length - (intOf i).toNat)
  case atStart => exact ⟨0, Nat.zero_le _, rfl, rfl, Below.refl _ _⟩
  case round =>
    obtain ⟨k, hk, rfl, hno, hb⟩ := hrel
    by_cases hlt : k < ps.length
    · have hsn : Hid ((ps.take (k + 1)).any (hit c) = ((ps.take k).any (hit c) || hit c (ps.getD k (0, 0)))) := any_take_succ (hit c) ps (0, 0) k hlt
      have hmem : ps.getD k (0, 0) ∈ ps := by simp [hlt]
      obtain ⟨hx, hy⟩ := hlo _ hmem
      have hany : Hid (hit c (ps.getD k (0, 0)) = true → ps.any (hit c) = true) := fun h => List.any_eq_true.2 ⟨_, hmem, h⟩
      obtain ⟨b, off, hao, hbs, c1, c2⟩ := hp3 k hlt
      clear hp3 hmem
      generalize ps.getD k (0, 0) = pr at *
      obtain ⟨x, y⟩ := pr
      simp only at hx hy c1 c2
      rw [← hb.cell (p := ⟨b, _, none⟩) hbs] at c1 c2
      subst hao
      have hcx : wr.cell? ⟨cb, x, none⟩ = some (.int .i32 (c x)) := (hb.cell (p := ⟨cb, _, none⟩) hcp3.1).trans (hcp3.2 x hx)
      have hcy : wr.cell? ⟨cb, y, none⟩ = some (.int .i32 (c y)) := (hb.cell (p := ⟨cb, _, none⟩) hcp3.1).trans (hcp3.2 y hy)
      have hcb := hcp3.1
      have hl' : wr.cell? ⟨lb, 3, none⟩ = some (.slice (some ⟨cb, 0, none⟩) n n) := (hb.cell (p := ⟨lb, _, none⟩) hlb3).trans hl33
      have hws := hb.size
      have hxi : (x : Int) < (n : Int) := by omega
      have hyi : (y : Int) < (n : Int) := by omega
      have hcp4 := hcp3
      clear hcp3 hlo
      go_wp2_with fail
      have hb2 : Below w3.heap.size w3 (wr.alloc (.cells #[.int .i32 (x : Int), .int .i32 (y : Int)] 55)) := hb.alloc hb.size _
      have e0 : (wr.alloc (.cells #[.int .i32 (x : Int), .int .i32 (y : Int)] 55)).cell? ⟨wr.heap.size, 0, none⟩ = some (.int .i32 x) := by simp
      have e1 : (wr.alloc (.cells #[.int .i32 (x : Int), .int .i32 (y : Int)] 55)).cell? ⟨wr.heap.size, 1, none⟩ = some (.int .i32 y) := by simp
      replace hcx := cell_alloc hcx (.cells #[.int .i32 (x : Int), .int .i32 (y : Int)] 55)
      replace hcy := cell_alloc hcy (.cells #[.int .i32 (x : Int), .int .i32 (y : Int)] 55)
      replace hl' := cell_alloc hl' (.cells #[.int .i32 (x : Int), .int .i32 (y : Int)] 55)
      generalize wr.alloc (.cells #[.int .i32 (x : Int), .int .i32 (y : Int)] 55) = w2 at *
      clear hb c1 c2
      by_cases hxy : x = y
      · have hd : ((x : Int) == (y : Int)) = true := by simp [hxy]
        go_quiet (fail)
        go_wp2
        go_ret
        exact fin _ _ (below_drewN hb2 _) (hany.out (by simp [hit, hxy]))
      · have hd : ((x : Int) == (y : Int)) = false := by simp; omega
        go_quiet (fail)
        go_wp2
        · have he : (c x == c y) = true := by assumption
          go_ret
          exact fin _ _ (below_drewN hb2 _) (hany.out (by simp [hit, he]))
        · have he : (c x == c y) = false := by assumption
          go_roundw
          case rel => exact ⟨k + 1, by omega, by go_num, by show _ = false; rw [hsn.out, hno.out]; simp [hit, he, hxy], below_drewN hb2 _⟩
          case measure => simp [intOf]; omega
    · have hkl : k = ps.length := by omega
      have hall : Hid (ps.any (hit c) = false) := by have := hno.out; rw [hkl, List.take_length] at this; exact this
      clear hkl
      go_wp2
      go_ret
      exact fin _ _ hb hall.out
end Go.Proofs.Ybulkawqg
