/-
  LawS2398ACopy: the arguments, opened.
-/
import Derived.Test.YbulkawqgAset
import Derived.ProofKit
import Derived.SizedLaws
import Derived.Deep.SlicePairs
namespace Go.Proofs.Ybulkawqg.A
open Go.ChangeShapes Go.WideShapes Go.ChangeAt Go.RowKit

theorem own0 : ownKnob Yba.prog.godebug = none := by kernel_rfl
theorem laidOut0 : laidOutB Yba.prog = true := by kernel_rfl
theorem cells71 : Yba.prog.cellsOf 71 = 4 := by kernel_rfl
theorem cells25 : Yba.prog.cellsOf 25 = 8 := by kernel_rfl
theorem cells3 : Yba.prog.cellsOf 3 = 1 := by kernel_rfl
theorem cells4 : Yba.prog.cellsOf 4 = 1 := by kernel_rfl
theorem cells9 : Yba.prog.cellsOf 9 = 1 := by kernel_rfl
theorem cells22 : Yba.prog.cellsOf 22 = 1 := by kernel_rfl
theorem cells23 : Yba.prog.cellsOf 23 = 1 := by kernel_rfl

theorem addr_of_cell {w : World} {a : Addr} {v : Value} (h : w.cell? (a.add 0) = some v) : ∃ b off, a = ⟨b, off, none⟩ ∧ b < w.heap.size := by
  obtain ⟨b, off, spot⟩ := a
  have hspot : spot = none := by simpa [Addr.add] using World.cell?_spot h
  subst hspot
  have hadd : (⟨b, off, none⟩ : Addr).add 0 = ⟨b, off, none⟩ := by simp [Addr.add]
  rw [hadd] at h
  exact ⟨b, off, rfl, World.block_lt_of_cell? w _ h⟩
theorem addr_add (b off i : Nat) : (⟨b, off, none⟩ : Addr).add i = ⟨b, off + i, none⟩ := by unfold Addr.add; split <;> simp_all

theorem weightsAll_mem {H : Type} {P : Program} {e : TypeId} : ∀ {l : List (DataW H)} {d : DataW H}, d ∈ l → ∀ n ∈ d.weights P e, n ∈ DataW.weightsAll P e l
  | d' :: r, d, hd, n, hn => by
    simp only [DataW.weightsAll, List.mem_append]
    rcases List.mem_cons.1 hd with rfl | h
    · exact .inl hn
    · exact .inr (weightsAll_mem h n hn)

/-- What a datum of an element is. -/
def quadD {H : Type} (q : Quad) : DataW H := .agg [.lit (.int .i64 q.1), .lit (.bool q.2.1), .lit (.string q.2.2.1.data.toList), .lit (.int .i64 q.2.2.2)]

theorem kinds_open {H : Type} {enc : TypeId × Value → H} {W : World} {fuel : Nat} {cs : List Value} {x : DataW H × List MemPlace} (h : DataW.trod enc Yba.prog W 0 (fun _ => true) true fuel 22 cs = some x) :
    ∃ (a : Option Addr) (cap : Nat) (qs : List Quad), cs = [.slice a qs.length cap] ∧ KcIn W a qs ∧ (a = none → qs.length = 0) ∧ ((∀ n ∈ x.1.weights Yba.prog 22, n ≤ reachBytes) → Bounded qs) := by
  rcases Deep.open_slice Yba.underlying22 h with ⟨hcs, _⟩ | ⟨ad, len, cap, m, n, D, Pl, rfl, _, hl, hm, hmm, rfl, hel⟩
  · exact ⟨none, 0, [], hcs, fun j hj => by simp at hj, fun _ => rfl, fun _ i => by simp [quad0]⟩
  · have hlm : len ≤ m := by simp at hmm; omega
    have key : ∀ i, i < len → ∃ q : Quad, W.cell? (ad.add (i * 4 + 0)) = some (qc q 0) ∧ W.cell? (ad.add (i * 4 + 1)) = some (qc q 1) ∧ W.cell? (ad.add (i * 4 + 2)) = some (qc q 2) ∧ W.cell? (ad.add (i * 4 + 3)) = some (qc q 3) ∧ D i = quadD q := by
      intro i hi
      obtain ⟨cs', h1, h2⟩ := hel i (by omega)
      rw [cells71] at h1
      obtain ⟨_, hlen, hcell⟩ := World.cells?_some h1
      obtain ⟨xs, k, _, hxy, _, hxl, hf⟩ := DataW.trod_struct Yba.underlying71 h2
      match xs, hxl, cs', hlen with
      | [y0, y1, y2, y3], _, [v0, v1, v2, v3], _ =>
        have g0 := hf 0 _ rfl
        have g1 := hf 1 _ rfl
        have g2 := hf 2 _ rfl
        have g3 := hf 3 _ rfl
        simp [cells3, cells4, cells9] at g0 g1 g2 g3
        obtain ⟨z, e0, d0, _⟩ := DataW.trod_int Yba.underlying3 g0
        obtain ⟨bo, e1, d1⟩ := DataW.trod_bool Yba.underlying4 g1
        obtain ⟨st, e2, d2, _⟩ := DataW.trod_string Yba.underlying9 g2
        obtain ⟨mm, e3, d3, _⟩ := DataW.trod_int Yba.underlying3 g3
        simp only [List.cons.injEq, and_true] at e0 e1 e2 e3
        subst e0 e1 e2 e3 d0 d1 d2 d3
        have f0 := hcell 0 (by omega)
        have f1 := hcell 1 (by omega)
        have f2 := hcell 2 (by omega)
        have f3 := hcell 3 (by omega)
        rw [Deep.add_add] at f0 f1 f2 f3
        simp only [Prod.mk.injEq] at hxy
        exact ⟨(z, bo, st, mm), f0, f1, f2, f3, by simpa [quadD] using hxy.1⟩
    obtain ⟨q, hq⟩ := Deep.choose_lt key
    have hget : ∀ j, j < len → ((List.range len).map q).getD j quad0 = q j := fun j hj => by simp [hj]
    refine ⟨some ad, cap, (List.range len).map q, by simp, fun j hj => ?_, fun h => by simp at h, fun hw i => ?_⟩
    · have hj' : j < len := by simpa using hj
      obtain ⟨e0, e1, e2, e3, _⟩ := hq j hj'
      obtain ⟨b, off, rfl, hlt⟩ := addr_of_cell (by simpa using (hq 0 (by omega)).1)
      rw [addr_add] at e0 e1 e2 e3
      rw [hget j hj']
      exact ⟨b, off, rfl, hlt, e0, by rw [Nat.add_assoc]; exact e1, by rw [Nat.add_assoc]; exact e2, by rw [Nat.add_assoc]; exact e3⟩
    · by_cases hi : i < len
      · rw [hget i hi]
        have hmem : (q i).2.2.1.data.toList.length ∈ DataW.weights Yba.prog 22 (.slice ((List.range len).map D) ((List.range (m - len)).map fun j => D (len + j))) := by
          simp only [DataW.weights, Yba.underlying22, List.mem_cons, List.mem_append]
          refine .inr (.inl (weightsAll_mem (d := D i) (List.mem_map.2 ⟨i, List.mem_range.2 hi, rfl⟩) _ ?_))
          rw [(hq i hi).2.2.2.2]
          simp [quadD, DataW.weights, Yba.underlying71, DataW.weightsEach]
        have hle := hw _ hmem
        have hsz : (q i).2.2.1.data.toList.length = (q i).2.2.1.size := Array.length_toList
        rw [hsz] at hle
        unfold reachBytes at hle
        omega
      · simp [hi, quad0]

theorem ints_open {H : Type} {enc : TypeId × Value → H} {W : World} {fuel : Nat} {cs : List Value} {x : DataW H × List MemPlace} (h : DataW.trod enc Yba.prog W 0 (fun _ => true) true fuel 23 cs = some x) :
    ∃ (a : Option Addr) (cap : Nat) (zs : List Int), cs = [.slice a zs.length cap] ∧ IntsIn W a zs ∧ (a = none → zs.length = 0) := by
  rcases open_ints Yba.underlying23 Yba.underlying3 cells3 h with ⟨hcs, _⟩ | ⟨x, l, c, zs, hcs, _, hl, hm, hz, _, hcell, hwz⟩
  · exact ⟨none, 0, [], hcs, fun j hj => by simp at hj, fun _ => rfl⟩
  · simp at hz
    refine ⟨some x, c, zs.take l, by rw [hcs]; simp; omega, fun j hj => ?_, fun h => by simp at h⟩
    have hj' : j < l := by simp at hj; omega
    obtain ⟨b, off, rfl, hlt⟩ := addr_of_cell (hcell 0 (by omega))
    have hc := hcell j (by omega)
    rw [addr_add] at hc
    refine ⟨b, off, rfl, hlt, ?_⟩
    rw [hc]
    simp [hj']
end Go.Proofs.Ybulkawqg.A
