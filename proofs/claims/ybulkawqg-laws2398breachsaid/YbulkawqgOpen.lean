/-
  What came in, opened: slices of edges, of bytes.
-/
import Derived.Test.YbulkawqgCached
import Derived.ProofKit
import Derived.Deep.SlicePairs
namespace Go.Proofs.Ybulkawqg
open Go.ChangeShapes Go.WideShapes Go.ChangeAt Go.RowKit

theorem Yba.own : ownKnob Yba.prog.godebug = none := by kernel_rfl
theorem Yba.laidOut : laidOutB Yba.prog = true := by kernel_rfl
theorem Yba.cells67 : Yba.prog.cellsOf 67 = 2 := by kernel_rfl
theorem Yba.cells5 : Yba.prog.cellsOf 5 = 1 := by kernel_rfl

theorem addr_of_cell {w : World} {a : Addr} {v : Value} (h : w.cell? (a.add 0) = some v) : ∃ b off, a = ⟨b, off, none⟩ ∧ b < w.heap.size := by
  obtain ⟨b, off, spot⟩ := a
  have hspot : spot = none := by simpa [Addr.add] using World.cell?_spot h
  subst hspot
  have hadd : (⟨b, off, none⟩ : Addr).add 0 = ⟨b, off, none⟩ := by simp [Addr.add]
  rw [hadd] at h
  exact ⟨b, off, rfl, World.block_lt_of_cell? w _ h⟩
theorem addr_add (b off i : Nat) : (⟨b, off, none⟩ : Addr).add i = ⟨b, off + i, none⟩ := by unfold Addr.add; split <;> simp_all

theorem u8_bounds {x : Int} (h : (Lit.int .u8 x).wf = true) : 0 ≤ x ∧ x ≤ 255 := by
  simp [Lit.wf, IntKind.min, IntKind.max, IntKind.bits, IntKind.signed] at h
  omega

theorem edges_open {H : Type} {enc : TypeId × Value → H} {W : World} {a : Option Addr} {len cap : Nat} {d : DataW H} {p : List MemPlace}
    (h : DataW.Trod enc Yba.prog W 0 (fun _ => true) true 39 (.slice a len cap) d p) : ∃ A C, EdgesIn W a len A C := by
  obtain ⟨fuel, hf⟩ := h
  rcases Deep.open_slice_pairs Yba.underlying39 Yba.underlying67 Yba.cells67 rfl rfl Yba.cells5 Yba.cells5 hf with ⟨hcs, _⟩ | ⟨x, l, c, m, n, V0, V1, D0, D1, P0, P1, hcs, _, hl, hm, hmm, _, hx⟩
  · simp [Value.cells] at hcs
    obtain ⟨rfl, rfl, rfl⟩ := hcs
    exact ⟨fun _ => 0, fun _ => 0, fun j hj => by omega⟩
  · simp [Value.cells] at hcs
    obtain ⟨rfl, rfl, rfl⟩ := hcs
    simp at hmm
    subst hmm
    have key : ∀ i, i < len → ∃ q : Int × Int, V0 i = .int .u8 q.1 ∧ V1 i = .int .u8 q.2 ∧ (0 ≤ q.1 ∧ q.1 ≤ 255) ∧ (0 ≤ q.2 ∧ q.2 ≤ 255) := by
      intro i hi
      obtain ⟨_, _, t0, t1⟩ := hx i (by omega)
      obtain ⟨y0, e0, _, w0⟩ := DataW.trod_int Yba.underlying5 t0
      obtain ⟨y1, e1, _, w1⟩ := DataW.trod_int Yba.underlying5 t1
      simp only [List.cons.injEq, and_true] at e0 e1
      exact ⟨(y0, y1), e0, e1, u8_bounds w0, u8_bounds w1⟩
    obtain ⟨q, hq⟩ := Deep.choose_lt key
    refine ⟨fun i => (q i).1, fun i => (q i).2, fun j hj => ?_⟩
    obtain ⟨c0, c1, _, _⟩ := hx j (by omega)
    obtain ⟨e0, e1, b0, b1⟩ := hq j hj
    obtain ⟨b, off, rfl, hlt⟩ := addr_of_cell (by simpa using (hx 0 (by omega)).1)
    rw [addr_add] at c0 c1
    exact ⟨b0, b1, b, off, rfl, hlt, by rw [c0, e0], by rw [← Nat.add_assoc] at c1; rw [c1, e1]⟩

theorem bytes_open {H : Type} {enc : TypeId × Value → H} {W : World} {a : Option Addr} {len cap : Nat} {d : DataW H} {p : List MemPlace}
    (h : DataW.Trod enc Yba.prog W 0 (fun _ => true) true 59 (.slice a len cap) d p) : ∃ Z, BytesIn W a len Z := by
  obtain ⟨fuel, hf⟩ := h
  rcases open_ints Yba.underlying59 Yba.underlying5 Yba.cells5 hf with ⟨hcs, _⟩ | ⟨x, l, c, zs, hcs, _, hl, hm, hz, _, hcell, hwz⟩
  · simp [Value.cells] at hcs
    obtain ⟨rfl, rfl, rfl⟩ := hcs
    exact ⟨fun _ => 0, fun j hj => by omega⟩
  · simp [Value.cells] at hcs
    obtain ⟨rfl, rfl, rfl⟩ := hcs
    simp at hz
    refine ⟨fun j => zs.getD j 0, fun j hj => ?_⟩
    have hj' : j < zs.length := by omega
    obtain ⟨b, off, rfl, hlt⟩ := addr_of_cell (hcell 0 (by omega))
    have hc := hcell j hj'
    rw [addr_add] at hc
    refine ⟨u8_bounds (hwz _ ?_), b, off, rfl, hlt, hc⟩
    simp [hj']
end Go.Proofs.Ybulkawqg
