/-
  components: the walk.
-/
import Derived.Test.YbulkawqgOuter
namespace Go.Proofs.Ybulkawqg
open Go.RowKit
open Plain (upd St)

/-- The three rows while the first loop fills them. -/
structure Fill (w0 w : World) (B n k : Nat) : Prop where
  ord : w.rowIs B 21 n (fun u => .int .i32 (if u < k then -1 else 0))
  ordB : w.heap[B + 1]? = some (.cells #[.slice (some ⟨B, 0, none⟩) n n] 49 (0, 0))
  low : w.rowIs (B + 2) 21 n (fun _ => .int .i32 0)
  lowB : w.heap[B + 3]? = some (.cells #[.slice (some ⟨B + 2, 0, none⟩) n n] 49 (0, 0))
  comp : w.rowIs (B + 4) 21 n (fun u => .int .i32 (if u < k then -1 else 0))
  size : w.heap.size = B + 5
  old : Below B w0 w

theorem Fill.start (w : World) (n : Nat) : Fill w (((((w.alloc (.cells (madeCells #[.int .i32 0] n) 21)).alloc (.cells #[.slice (some ⟨w.heap.size, 0, none⟩) n n] 49)).alloc (.cells (madeCells #[.int .i32 0] n) 21)).alloc
    (.cells #[.slice (some ⟨w.heap.size + 2, 0, none⟩) n n] 49)).alloc (.cells (madeCells #[.int .i32 0] n) 21)) w.heap.size n 0 := by
  have h0 := World.rowIs_made w (.int .i32 0) n 21
  generalize e1 : w.alloc (.cells (madeCells #[.int .i32 0] n) 21) = w1 at *
  have s1 : w1.heap.size = w.heap.size + 1 := by rw [← e1]; simp
  have h1 := heap_alloc_new w1 (.cells #[.slice (some ⟨w.heap.size, 0, none⟩) n n] 49)
  have h0 := h0.alloc (.cells #[.slice (some ⟨w.heap.size, 0, none⟩) n n] 49)
  have b1 : Below w.heap.size w w1 := by rw [← e1]; exact (Below.refl _ _).alloc (Nat.le_refl _) _
  have b2 := b1.alloc b1.size (.cells #[.slice (some ⟨w.heap.size, 0, none⟩) n n] 49)
  generalize e2 : w1.alloc (.cells #[.slice (some ⟨w.heap.size, 0, none⟩) n n] 49) = w2 at *
  have s2 : w2.heap.size = w.heap.size + 2 := by rw [← e2]; simp [s1]
  have h2 := World.rowIs_made w2 (.int .i32 0) n 21
  have h0 := h0.alloc (.cells (madeCells #[.int .i32 0] n) 21)
  have h1 := block_alloc h1 (.cells (madeCells #[.int .i32 0] n) 21)
  have b3 := b2.alloc b2.size (.cells (madeCells #[.int .i32 0] n) 21)
  generalize e3 : w2.alloc (.cells (madeCells #[.int .i32 0] n) 21) = w3 at *
  have s3 : w3.heap.size = w.heap.size + 3 := by rw [← e3]; simp [s2]
  have h3 := heap_alloc_new w3 (.cells #[.slice (some ⟨w.heap.size + 2, 0, none⟩) n n] 49)
  have h0 := h0.alloc (.cells #[.slice (some ⟨w.heap.size + 2, 0, none⟩) n n] 49)
  have h1 := block_alloc h1 (.cells #[.slice (some ⟨w.heap.size + 2, 0, none⟩) n n] 49)
  have h2 := h2.alloc (.cells #[.slice (some ⟨w.heap.size + 2, 0, none⟩) n n] 49)
  have b4 := b3.alloc b3.size (.cells #[.slice (some ⟨w.heap.size + 2, 0, none⟩) n n] 49)
  generalize e4 : w3.alloc (.cells #[.slice (some ⟨w.heap.size + 2, 0, none⟩) n n] 49) = w4 at *
  have s4 : w4.heap.size = w.heap.size + 4 := by rw [← e4]; simp [s3]
  have h4 := World.rowIs_made w4 (.int .i32 0) n 21
  have h0 := h0.alloc (.cells (madeCells #[.int .i32 0] n) 21)
  have h1 := block_alloc h1 (.cells (madeCells #[.int .i32 0] n) 21)
  have h2 := h2.alloc (.cells (madeCells #[.int .i32 0] n) 21)
  have h3 := block_alloc h3 (.cells (madeCells #[.int .i32 0] n) 21)
  have b5 := b4.alloc b4.size (.cells (madeCells #[.int .i32 0] n) 21)
  rw [s1] at h1
  rw [s2] at h2
  rw [s3] at h3
  rw [s4] at h4
  exact ⟨h0.congr (fun i _ => by simp), h1, h2, h3, h4.congr (fun i _ => by simp), by simp [s4], b5⟩

theorem Fill.next {w0 w : World} {B n k : Nat} (h : Fill w0 w B n k) : Fill w0 ((w.setCell ⟨B, k, none⟩ (.int .i32 (-1))).setCell ⟨B + 4, k, none⟩ (.int .i32 (-1))) B n (k + 1) := by
  refine ⟨((h.ord.set k _).setOther (by simp) _).congr (fun i _ => ?_), block_set (block_set h.ordB (by simp) _) (by simp) _, (h.low.setOther (by simp) _).setOther (by simp) _,
    block_set (block_set h.lowB (by simp) _) (by simp) _, ((h.comp.setOther (by simp) _).set k _).congr (fun i _ => ?_), by simpa [World.setCell] using h.size, (h.old.setCell (by simp) _).setCell (by simp) _⟩
  · by_cases e : i = k
    · simp [e]
    · simp only [if_neg e]
      by_cases e2 : i < k
      · rw [if_pos e2, if_pos (by omega)]
      · rw [if_neg e2, if_neg (by omega)]
  · by_cases e : i = k
    · simp [e]
    · simp only [if_neg e]
      by_cases e2 : i < k
      · rw [if_pos e2, if_pos (by omega)]
      · rw [if_neg e2, if_neg (by omega)]

theorem Fill.done {w0 w : World} {B n : Nat} (h : Fill w0 w B n n) :
    Rep w0 (((w.alloc (.cells #[.slice none 0 0] 49)).alloc (.cells #[.slice none 0 0] 73)).alloc (.cells #[.int .i32 0] 21)) B n St.start (.slice none 0 0) (.slice none 0 0) := by
  have hs := h.size
  have h5 := heap_alloc_new w (.cells #[.slice none 0 0] 49)
  have h6 := heap_alloc_new (w.alloc (.cells #[.slice none 0 0] 49)) (.cells #[.slice none 0 0] 73)
  have h7 := heap_alloc_new ((w.alloc (.cells #[.slice none 0 0] 49)).alloc (.cells #[.slice none 0 0] 73)) (.cells #[.int .i32 0] 21)
  simp only [World.size_alloc, hs] at h5 h6 h7
  refine ⟨?_, block_alloc (block_alloc (block_alloc h.ordB _) _) _, ((h.low.alloc _).alloc _).alloc _, block_alloc (block_alloc (block_alloc h.lowB _) _) _, ?_, block_alloc (block_alloc h5 _) _, block_alloc h6 _, h7,
    World.ownsRow_nil _ _ _ _, World.ownsRow_nil _ _ _ _, ((h.old.alloc (by omega) _).alloc (by simp; omega) _).alloc (by simp; omega) _⟩
  · exact (((h.ord.alloc _).alloc _).alloc _).congr (fun i hi => by simp [hi, St.start])
  · exact (((h.comp.alloc _).alloc _).alloc _).congr (fun i hi => by simp [hi, St.start])

set_option maxRecDepth 100000 in
set_option maxHeartbeats 4000000 in
theorem components_any (gb n : Nat) (adj : Nat → List Nat) (w : World) (hn1 : 1 ≤ n) (hn2 : n ≤ 12) (hadj : AdjAt w gb n adj) :
    Calls Yba.prog 22 #[.slice (some ⟨gb, 0, none⟩) n n] w fun e w' => ∃ c, e = .returned (.slice (some ⟨w.heap.size + 4, 0, none⟩) n n) ∧ CompAt w' (w.heap.size + 4) n c ∧
      (∀ u v, u < n → v < n → (c u = c v ↔ Plain.Reach adj u v ∧ Plain.Reach adj v u)) ∧ Below w.heap.size w w' := by
  have hmk := run_make_row' (P := Yba.prog) 49 21 (.int .i32 0) 4 Yba.underlying49 Yba.info21 rfl .i64 .i64 n (by omega) (by omega)
  go_enter Yba.func22, Yba.ntmps22
  go_wp2_with fail
  simp only [Nat.add_assoc, Nat.reduceAdd]
  have hfl := Fill.start w n
  generalize (((((w.alloc (.cells (madeCells #[.int .i32 0] n) 21)).alloc (.cells #[.slice (some ⟨w.heap.size, 0, none⟩) n n] 49)).alloc (.cells (madeCells #[.int .i32 0] n) 21)).alloc
    (.cells #[.slice (some ⟨w.heap.size + 2, 0, none⟩) n n] 49)).alloc (.cells (madeCells #[.int .i32 0] n) 21)) = w1 at *
  generalize hB : w.heap.size = B at *
  have HB : Hid (w.heap.size = B) := hB
  clear hB hmk
  go_loopw [29] (fun i wr => ∃ k : Nat, k ≤ n ∧ i = .int .i64 k ∧ Fill w wr B n k) (fun i _ => n - (intOf i).toNat)
  case atStart => exact ⟨0, Nat.zero_le _, rfl, hfl⟩
  case round =>
    clear hfl
    obtain ⟨k, hk, rfl, hf⟩ := hrel
    by_cases hlt : k < n
    · have c1 := cell_of_one hf.ordB
      have c2 := hf.ord.cell hlt
      have c3 := hf.ord.frozen k
      have c4 := hf.comp.cell hlt
      have c5 := hf.comp.frozen k
      have HN : Hid (Fill w _ B n (k + 1)) := hf.next
      clear hf
      go_wp2_with fail
      go_roundw
      case rel => exact ⟨k + 1, by omega, by go_num, HN.out⟩
      case measure => simp [intOf]; omega
    · have hkn : n = k := by omega
      subst hkn
      have hr := hf.done
      have hsz := hf.size
      clear hf
      go_wp2_with fail
      simp only [Nat.add_assoc, Nat.reduceAdd]
      generalize ((wr.alloc (.cells #[.slice none 0 0] 49)).alloc (.cells #[.slice none 0 0] 73)).alloc (.cells #[.int .i32 0] 21) = w2 at *
      clear hsz hlt hk
      refine outer_loop gb B n adj _ w w2 St.start _ _ ⟨rfl, rfl, rfl, rfl, rfl, rfl, rfl, rfl, rfl, rfl⟩ rfl hr Plain.TI.start rfl hadj HB.out hn2 _ ?_
      intro t' w' s' sv' wv' hs' hr' hfin
      have hcp : CompAt w' (B + 4) n s'.comp := ⟨hr'.comp.lt, fun u hu => (hr'.cComp hu).1⟩
      have hold := hr'.old
      clear hr hr'
      rw [lit178 t' hs'.size]
      simp only [hs'.s0, hs'.s3, hs'.s4, hs'.s5, hs'.s7, hs'.s8, hs'.s11, hs'.s41, hs'.s42]
      go_wp2_with fail
      go_ret
      exact ⟨s'.comp, by rw [HB.out]; rfl, by rw [HB.out]; exact hcp, hfin, by rw [HB.out]; exact hold⟩
end Go.Proofs.Ybulkawqg
