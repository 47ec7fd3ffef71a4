/-
  zzs2398bgraph: it hands back n adjacency rows in new memory, each entry below n; nothing that was there is written.
-/
import Derived.Test.YbulkawqgBase
import Derived.Deep.AppendLies
namespace Go.Proofs.Ybulkawqg
open Go.RowKit

theorem Yba.info21 : (Yba.prog.info? 21).map (fun i => (i.zero, i.size, i.bytes)) = some (some (.int .i32 0), 1, 4) := by kernel_rfl
theorem Yba.info49 : (Yba.prog.info? 49).map (fun i => (i.zero, i.size, i.bytes)) = some (some (.slice none 0 0), 1, 24) := by kernel_rfl

/-- The values of a row of int32. -/
def i32s (l : List Nat) : List Value := l.map fun v : Nat => .int .i32 (v : Int)
theorem length_i32s (l : List Nat) : (i32s l).length = l.length := by simp [i32s]
/-- The numbers of a row, as Go's. -/
def ints (l : List Nat) : List Int := l.map fun v : Nat => (v : Int)
theorem length_ints (l : List Nat) : (ints l).length = l.length := by simp [ints]

/-- A slice of edges that came in. -/
def EdgesIn (w : World) (ao : Option Addr) (len : Nat) (A C : Nat → Int) : Prop :=
  ∀ j, j < len → (0 ≤ A j ∧ A j ≤ 255) ∧ (0 ≤ C j ∧ C j ≤ 255) ∧ ∃ b off, ao = some ⟨b, off, none⟩ ∧ b < w.heap.size ∧
    w.cell? ⟨b, off + j * 2, none⟩ = some (.int .u8 (A j)) ∧ w.cell? ⟨b, off + j * 2 + 1, none⟩ = some (.int .u8 (C j))

/-- The rows as they are while they are built. -/
structure Gr (w0 w : World) (gb n k : Nat) (vs : Nat → Value) (adj : Nat → List Nat) : Prop where
  row : w.rowIs gb 49 n vs
  own : ∀ u, u < n → w.ownsRow (gb + 1) 21 1 (vs u) (adj u).length (i32s (adj u))
  low : ∀ u, u < n → (∀ v, v ∈ adj u → v < n) ∧ (adj u).length ≤ k
  far : ∀ u u', u < n → u' < n → u ≠ u' → (vs u).ownBlock = none ∨ (vs u).ownBlock ≠ (vs u').ownBlock
  old : Below gb w0 w

theorem Gr.alloc {w0 w : World} {gb n k : Nat} {vs : Nat → Value} {adj : Nat → List Nat} (h : Gr w0 w gb n k vs adj) (o : Obj) : Gr w0 (w.alloc o) gb n k vs adj :=
  ⟨h.row.alloc o, fun u hu => (h.own u hu).alloc o, h.low, h.far, h.old.alloc (by have := h.row.lt; omega) o⟩

theorem Gr.more {w0 w : World} {gb n k : Nat} {vs : Nat → Value} {adj : Nat → List Nat} (h : Gr w0 w gb n k vs adj) : Gr w0 w gb n (k + 1) vs adj :=
  ⟨h.row, h.own, fun u hu => ⟨(h.low u hu).1, by have := (h.low u hu).2; omega⟩, h.far, h.old⟩

theorem rowI_of_own {w : World} {B : Nat} {v : Value} {l : List Nat} (h : w.ownsRow B 21 1 v l.length (i32s l)) :
    ∃ ao cap, v = .slice ao l.length cap ∧ RowI w ao (ints l) ∧ (∀ a, ao = some a → a.block < w.heap.size) := by
  rcases h.2 with ⟨rfl, h0⟩ | ⟨g, cap, cur, rfl, hb, hg, hn, hm, hs, ht⟩
  · rw [h0]
    refine ⟨none, 0, rfl, ?_, by simp⟩
    intro j hj
    rw [length_ints] at hj; omega
  · refine ⟨_, _, rfl, ?_, fun a ha => by simp at ha; subst ha; exact (Array.getElem?_eq_some_iff.1 hg).1⟩
    intro j hj
    refine ⟨g, 0, rfl, ?_⟩
    rw [length_ints] at hj
    have hj' : (i32s l)[j]? = some (.int .i32 (l[j] : Int)) := by simp [i32s, hj]
    rw [← ht] at hj'
    rw [List.getElem?_take] at hj'
    split at hj'
    · simp [World.cell?, hg]
      simp at hj'
      simpa [hj, ints] using hj'
    · cases hj'

theorem rowI_alloc {w : World} {ao : Option Addr} {zs : List Int} (h : RowI w ao zs) (o : Obj) : RowI (w.alloc o) ao zs := fun j hj => by
  obtain ⟨b, off, e, hc⟩ := h j hj
  exact ⟨b, off, e, by rw [World.cell?_alloc_lt _ _ _ (World.block_lt_of_cell? w _ hc)]; exact hc⟩

theorem Gr.next {w0 w w1 : World} {gb n k u v g cap : Nat} {vs : Nat → Value} {adj : Nat → List Nat} (h : Gr w0 w gb n k vs adj) (hu : u < n) (hv : v < n)
    (hown : w1.ownsRow (gb + 1) 21 1 (.slice (some ⟨g, 0, none⟩) ((adj u).length + 1) cap) ((adj u).length + 1) (i32s (adj u) ++ [.int .i32 (v : Int)]))
    (hgrow : w.grownBy w1 (vs u).ownBlock) (hat : (vs u).ownBlock = some g ∨ g = w.heap.size) :
    Gr w0 (w1.setCell ⟨gb, u, none⟩ (.slice (some ⟨g, 0, none⟩) ((adj u).length + 1) cap)) gb n (k + 1)
      (fun j => if j = u then .slice (some ⟨g, 0, none⟩) ((adj u).length + 1) cap else vs j) (fun j => if j = u then adj u ++ [v] else adj j) := by
  have hlt := h.row.lt
  have hne : some gb ≠ (vs u).ownBlock := fun e => by have := (h.own u hu).lt gb e.symm; omega
  have hblk : w1.heap[gb]? = w.heap[gb]? := hgrow.block gb hlt hne
  have hg : gb + 1 ≤ g := (hown.lt g rfl).1
  refine ⟨?_, ?_, ?_, ?_, ?_⟩
  · exact (h.row.of_block hblk).set u _
  · intro j hj
    by_cases e : j = u
    · subst e
      simp only [if_true]
      have := ownsRow_setCell_below hown (a := ⟨gb, j, none⟩) (by simp) (.slice (some ⟨g, 0, none⟩) ((adj j).length + 1) cap)
      simpa [i32s] using this
    · simp only [if_neg e]
      exact ownsRow_setCell_below ((h.own j hj).kept hgrow (h.far j u hj hu e)) (by simp) _
  · intro j hj
    by_cases e : j = u
    · subst e
      simp only [if_true]
      refine ⟨fun x hx => ?_, by simp; exact (h.low j hj).2⟩
      rcases List.mem_append.1 hx with hx | hx
      · exact (h.low j hj).1 x hx
      · simp at hx; omega
    · simp only [if_neg e]
      exact ⟨(h.low j hj).1, by have := (h.low j hj).2; omega⟩
  · intro j j' hj hj' hne'
    have key : ∀ x, x < n → x ≠ u → (vs x).ownBlock = none ∨ (vs x).ownBlock ≠ some g := by
      intro x hx hxu
      rcases hat with hat | hat
      · rcases h.far x u hx hu hxu with h1 | h1
        · exact .inl h1
        · rw [hat] at h1; exact .inr h1
      · cases hc : (vs x).ownBlock with
        | none => exact .inl rfl
        | some q => right; have := ((h.own x hx).lt q hc).2; simp; omega
    by_cases e : j = u
    · subst e
      have : ¬ j' = j := fun e => hne' e.symm
      simp only [if_true, if_neg this]
      right
      show some g ≠ _
      rcases key j' hj' this with h1 | h1
      · rw [h1]; simp
      · exact fun e => h1 e.symm
    · simp only [if_neg e]
      by_cases e' : j' = u
      · subst e'
        simp only [if_true, Value.ownBlock]
        exact key j hj e
      · simp only [if_neg e']
        exact h.far j j' hj hj' hne'
  · refine (h.old.grown hgrow (by omega) (fun q hq => ?_)).setCell (by simp) _
    have := ((h.own u hu).lt q hq).1; omega

theorem Gr.keep {w0 w w1 : World} {gb n k u : Nat} {vs : Nat → Value} {adj : Nat → List Nat} (h : Gr w0 w gb n k vs adj) (hu : u < n) (hgrow : w.grownBy w1 (vs u).ownBlock) :
    w1.cell? ⟨gb, u, none⟩ = some (vs u) ∧ w1.frozen? ⟨gb, u, none⟩ = false := by
  have hne : some gb ≠ (vs u).ownBlock := fun e => by have := (h.own u hu).lt gb e.symm; omega
  have hr := h.row.of_block (hgrow.block gb h.row.lt hne)
  exact ⟨hr.cell hu, hr.frozen u⟩

theorem Gr.start (w : World) (n : Nat) : Gr w (w.alloc (.cells (madeCells #[.slice none 0 0] n) 49)) w.heap.size n 0 (fun _ => .slice none 0 0) (fun _ => []) :=
  ⟨World.rowIs_made w _ n 49, fun _ _ => World.ownsRow_nil _ _ _ _, fun _ _ => ⟨fun v hv => by simp at hv, Nat.zero_le _⟩, fun _ _ _ _ _ => .inl rfl, (Below.refl _ _).alloc (Nat.le_refl _) _⟩

set_option maxHeartbeats 400000 in
theorem graph_any (n : Nat) (ao : Option Addr) (len cap : Nat) (A C : Nat → Int) (w : World) (hn : 1 ≤ n ∧ n ≤ 12) (hlen : len ≤ 1024) (hc : EdgesIn w ao len A C) :
    Calls Yba.prog 12 #[.int .i64 n, .slice ao len cap] w fun e w' => ∃ vs adj, e = .returned (.slice (some ⟨w.heap.size, 0, none⟩) n n) ∧ Gr w w' w.heap.size n len vs adj := by
  have hmk := run_make_row' (P := Yba.prog) 40 49 (.slice none 0 0) 24 Yba.underlying40 Yba.info49 rfl .i64 .i64 n (by omega) (by omega)
  obtain ⟨i0, hi, hz0, hz1, hz2⟩ := info_parts Yba.info21
  obtain ⟨hn1, hn2⟩ := hn
  go_enter Yba.func12, Yba.ntmps12
  go_wp2
  clear hmk
  go_loopw [14] (fun i wr => ∃ k : Nat, k ≤ len ∧ i = .int .i64 k ∧ ∃ vs adj, Gr w wr w.heap.size n k vs adj) (fun i _ => len - (intOf i).toNat)
  case atStart => exact ⟨0, Nat.zero_le _, rfl, _, _, Gr.start w n⟩
  case round =>
    obtain ⟨k, hk, rfl, vs, adj, hg⟩ := hrel
    by_cases hlt : k < len
    · obtain ⟨⟨hA0, hA1⟩, ⟨hC0, hC1⟩, b, off, hao, hbs, c1, c2⟩ := hc k hlt
      rw [← hg.old.cell (p := ⟨b, _, none⟩) hbs] at c1 c2
      subst hao
      clear hc
      have hu0 : 0 ≤ A k % (n : Int) := Int.emod_nonneg _ (by omega)
      have hu1 : A k % (n : Int) < n := Int.emod_lt_of_pos _ (by omega)
      have hv0 : 0 ≤ C k % (n : Int) := Int.emod_nonneg _ (by omega)
      have hv1 : C k % (n : Int) < n := Int.emod_lt_of_pos _ (by omega)
      obtain ⟨u, hu⟩ := Int.eq_ofNat_of_zero_le hu0
      obtain ⟨v, hv⟩ := Int.eq_ofNat_of_zero_le hv0
      rw [hu] at hu1
      rw [hv] at hv1
      clear hu0 hv0
      have hun : u < n := by omega
      have hvn : v < n := by omega
      obtain ⟨ao, cp, hvs, hrow, _⟩ := rowI_of_own (hg.own u hun)
      have hcu : ∀ o, (wr.alloc o).cell? ⟨w.heap.size, u, none⟩ = some (.slice ao (adj u).length cp) := fun o => by rw [← hvs]; exact (hg.row.alloc o).cell hun
      have hll : (adj u).length ≤ 1024 := by have := (hg.low u hun).2; omega
      have hrow' : ∀ o, RowI (wr.alloc o) ao (ints (adj u)) := fun o => (rowI_alloc hrow o)
      have hgl := hg.row.lt
      have HG : Hid (Gr w wr w.heap.size n k vs adj) := hg
      clear hg hrow
      go_wp2_with (first | (go_at_call 21; refine (contains_any _ _ _ _ _ _ (length_ints _) (by omega) (hrow' _)).mono ?_; rintro e w' ⟨rfl, rfl⟩) | (at_builtin; refine wpList_append_lies _ rfl _ _ 49 rfl (w.heap.size + 1) 21 i0 (.int .i32 0) 1 4 Yba.underlying49 hi hz0 hz1 hz2 rfl (by decide) _ (adj u).length (i32s (adj u)) rfl ?hown ⟨wr.heap.size + 1, 0, none⟩ 1 1 [.int .i32 (v : Int)] rfl rfl ?hnews ?h1 (by decide) ?h63 ?hby ?hbase (wr.heap.size + 2) ?hH ?_))
      case hown => exact ((HG.out.own u hun).alloc _).alloc _ |> fun h => by rw [hvs] at h; exact h
      case hnews =>
        intro j y hj
        match j, hj with
        | 0, hj => simp at hj; subst hj; simp [Addr.add]
      case h1 => intro y hy; simp at hy; subst hy; rfl
      case h63 => unfold maxLen; omega
      case hby => omega
      case hbase => simp; omega
      case hH => simp
      · go_roundw
        case rel => exact ⟨k + 1, by omega, by go_num, vs, adj, (HG.out.alloc _).more⟩
        case measure => simp [intOf]; omega
      · intro g cp1 w1 hown1 hgrow hat hlt1
        have hgr := (HG.out.alloc (.cells #[.int .u8 (A k), .int .u8 (C k)] 67)).alloc (.cells #[.int .i32 (v : Int)] 21)
        rw [← hvs] at hgrow hat
        have hst := hgr.next hun hvn hown1 hgrow (by simpa using hat)
        have hcc := hgr.keep hun hgrow
        clear hcu hrow' hown1 hgrow hat hgr
        obtain ⟨hcc, hff⟩ := hcc
        go_wp2
        go_roundw
        case rel => exact ⟨k + 1, by omega, by go_num, _, _, hst⟩
        case measure => simp [intOf]; omega
      · go_roundw
        case rel => exact ⟨k + 1, by omega, by go_num, vs, adj, (HG.out.alloc _).more⟩
        case measure => simp [intOf]; omega
    · have : k = len := by omega
      subst this
      go_wp2
      go_ret
      exact ⟨vs, adj, rfl, hg⟩
end Go.Proofs.Ybulkawqg
