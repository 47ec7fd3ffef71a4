/-
  zzs2398akinds.
-/
import Derived.Test.YbulkawqgAints
namespace Go.Proofs.Ybulkawqg.A
open Go.RowKit

/-- A kind and its count: size, untouched, forbid, n. -/
abbrev Quad := Int × Bool × ByteArray × Int
def quad0 : Quad := (0, false, ByteArray.empty, 0)
/-- The cell i of the element q. -/
def qc (q : Quad) : Nat → Value
  | 0 => .int .i64 q.1
  | 1 => .bool q.2.1
  | 2 => .string q.2.2.1
  | _ => .int .i64 q.2.2.2
def qf (qs : List Quad) (i : Nat) : Value := qc (qs.getD (i / 4) quad0) (i % 4)
def q4 (qs : List Quad) : List Value := (List.range (qs.length * 4)).map (qf qs)
theorem length_q4 (qs : List Quad) : (q4 qs).length = qs.length * 4 := by simp [q4]
theorem qf_at (qs : List Quad) (j r : Nat) (hr : r < 4) : qf qs (j * 4 + r) = qc (qs.getD j quad0) r := by
  unfold qf
  rw [show (j * 4 + r) / 4 = j from by omega, show (j * 4 + r) % 4 = r from by omega]

/-- A slice of such elements in memory. -/
def KcIn (w : World) (ao : Option Addr) (qs : List Quad) : Prop :=
  ∀ j, j < qs.length → ∃ b off, ao = some ⟨b, off, none⟩ ∧ b < w.heap.size ∧ w.cell? ⟨b, off + j * 4, none⟩ = some (.int .i64 (qs.getD j quad0).1) ∧ w.cell? ⟨b, off + j * 4 + 1, none⟩ = some (.bool (qs.getD j quad0).2.1) ∧
    w.cell? ⟨b, off + j * 4 + 2, none⟩ = some (.string (qs.getD j quad0).2.2.1) ∧ w.cell? ⟨b, off + j * 4 + 3, none⟩ = some (.int .i64 (qs.getD j quad0).2.2.2)

theorem make37 (n : Nat) (hn : n ≤ 1024) (w : World) : (Instr.makeSlice 31 (.int .i64 (n : Int)) (.int .i64 (n : Int))).run Yba.prog w =
    .ok (.slice (some ⟨w.heap.size, 0, none⟩) n n) (w.alloc (.cells (madeCells #[.int .i64 0, .bool false, .string ⟨#[]⟩, .int .i64 0] (n * 4)) 37)) := by
  obtain ⟨i0, hi, hz0, hz1, hz2⟩ := info_parts info37
  have := run_make (P := Yba.prog) w 31 37 i0 _ Yba.underlying31 hi hz0 .i64 .i64 (n : Int) (n : Int) (by omega) (Int.le_refl _) (by rw [hz2]; omega) (by omega)
  rw [this, hz1]
  simp [Value.cells]

theorem own37 {w : World} {B g n : Nat} {qs : List Quad} {f : Nat → Value} (h : w.rowIs g 37 (n * 4) f) (hf : ∀ i, i < n * 4 → f i = qf qs i) (hB : B ≤ g) (hn : qs.length = n) (hm : n ≤ 1024) :
    w.ownsRow B 37 4 (.slice (some ⟨g, 0, none⟩) n n) n (q4 qs) := by
  have := own_of_row (B := B) (n := n) (cap := n) (size := 4) h hB (Nat.le_refl _) (by unfold maxLen; omega)
  have e : (List.range (n * 4)).map f = q4 qs := by
    unfold q4
    rw [hn]
    exact List.map_congr_left (fun i hi => hf i (by simpa using hi))
  rw [e] at this
  exact this

set_option maxRecDepth 100000 in
set_option maxHeartbeats 1600000 in
theorem akinds_any (ao : Option Addr) (len cap : Nat) (qs : List Quad) (w : World) (hl : qs.length = len) (hm : len ≤ 1024) (hnil : ao = none → len = 0) (hc : KcIn w ao qs) :
    Calls Yba.prog 18 #[.slice ao len cap] w fun e w' => ∃ v, e = .returned v ∧ w'.ownsRow w.heap.size 37 4 v qs.length (q4 qs) ∧ Below w.heap.size w w' := by
  subst hl
  have heq := fun wx a l cc => Lib.run_eql_slice_nil (P := Yba.prog) wx 22 71 a l cc 0 0 Yba.underlying22
  have hmk := make37 qs.length hm
  cases ao with
  | none =>
    have hz : qs = [] := List.eq_nil_of_length_eq_zero (hnil rfl)
    subst hz
    go_enter Yba.func18, Yba.ntmps18
    go_wp2
    go_ret
    exact ⟨_, rfl, World.ownsRow_nil _ _ _ _, Below.refl _ _⟩
  | some ad =>
    clear hnil
    go_enter Yba.func18, Yba.ntmps18
    go_wp2
    clear hmk heq
    have hr0 := World.rowIs_alloc w (madeCells #[.int .i64 0, .bool false, .string ⟨#[]⟩, .int .i64 0] (qs.length * 4)) 37 (fun i => (madeCells #[.int .i64 0, .bool false, .string ⟨#[]⟩, .int .i64 0] (qs.length * 4)).getD i undef) (fun i hi => by simp [hi])
    rw [size_madeCells] at hr0
    have hb0 : Below w.heap.size w (w.alloc (.cells (madeCells #[.int .i64 0, .bool false, .string ⟨#[]⟩, .int .i64 0] (qs.length * 4)) 37)) := (Below.refl _ _).alloc (Nat.le_refl _) _
    go_loopw [13] (fun i wr => ∃ (k : Nat) (f : Nat → Value), k ≤ qs.length ∧ i = .int .i64 k ∧ wr.rowIs w.heap.size 37 (qs.length * 4) f ∧ Hid (∀ i, i < k * 4 → f i = qf qs i) ∧ Below w.heap.size w wr) (fun i _ => qs.length - (intOf i).toNat)
    case atStart => exact ⟨0, _, Nat.zero_le _, rfl, hr0, fun i h => by omega, hb0⟩
    case round =>
      clear hr0 hb0
      obtain ⟨k, f, hk, rfl, hr, hf, hb⟩ := hrel
      by_cases hlt : k < qs.length
      · obtain ⟨b, off, hao, hbs, c1, c2, c3, c4⟩ := hc k hlt
        rw [← hb.cell (p := ⟨b, _, none⟩) hbs] at c1 c2 c3 c4
        simp at hao
        subst hao
        have hq0 := qf_at qs k 0 (by decide)
        have hq1 := qf_at qs k 1 (by decide)
        have hq2 := qf_at qs k 2 (by decide)
        have hq3 := qf_at qs k 3 (by decide)
        generalize qs.getD k quad0 = q at *
        obtain ⟨z, bo, st, m⟩ := q
        simp only at c1 c2 c3 c4
        have d0 := hr.cell (i := k * 4) (by omega)
        have d1 := hr.cell (i := k * 4 + 1) (by omega)
        have d2 := hr.cell (i := k * 4 + 2) (by omega)
        have d3 := hr.cell (i := k * 4 + 3) (by omega)
        have f0 := hr.frozen (k * 4)
        have f1 := hr.frozen (k * 4 + 1)
        have f2 := hr.frozen (k * 4 + 2)
        have f3 := hr.frozen (k * 4 + 3)
        have hgl := hr.lt
        have HQ : Hid (qf qs (k * 4 + 0) = .int .i64 z ∧ qf qs (k * 4 + 1) = .bool bo ∧ qf qs (k * 4 + 2) = .string st ∧ qf qs (k * 4 + 3) = .int .i64 m) := ⟨hq0, hq1, hq2, hq3⟩
        have HR : Hid (wr.rowIs w.heap.size 37 (qs.length * 4) f) := hr
        clear hc hq0 hq1 hq2 hq3 hr
        go_wp2
        go_roundw
        case rel => exact ⟨k + 1, _, by omega, by go_num, ((((HR.out.set (k * 4) _).set (k * 4 + 1) _).set (k * 4 + 2) _).set (k * 4 + 3) _).alloc _, fun i hi => by
          obtain ⟨q0, q1, q2, q3⟩ := HQ.out
          by_cases e3 : i = k * 4 + 3
          · subst e3; simp [q3]
          by_cases e2 : i = k * 4 + 2
          · subst e2; simp [q2]
          by_cases e1 : i = k * 4 + 1
          · subst e1; simp [q1]
          by_cases e0 : i = k * 4
          · subst e0; simp at q0; simp [q0]
          simp only [if_neg e3, if_neg e2, if_neg e1, if_neg e0]
          exact hf.out i (by omega), ((((hb.setCell (Nat.le_refl _) _).setCell (Nat.le_refl _) _).setCell (Nat.le_refl _) _).setCell (Nat.le_refl _) _).alloc (by simp [World.setCell]; omega) _⟩
        case measure => simp [intOf]; omega
      · have hkn : k = qs.length := by omega
        subst hkn
        have ho : Hid (wr.ownsRow w.heap.size 37 4 (.slice (some ⟨w.heap.size, 0, none⟩) qs.length qs.length) qs.length (q4 qs)) := own37 hr hf.out (Nat.le_refl _) rfl hm
        clear hr
        go_wp2
        go_ret
        exact ⟨_, rfl, ho.out, hb⟩
end Go.Proofs.Ybulkawqg.A
