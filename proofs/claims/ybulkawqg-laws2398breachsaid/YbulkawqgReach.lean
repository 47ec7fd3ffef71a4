/-
  zzs2398breach: what vertex reaches what, by rounds.
-/
import Derived.Test.YbulkawqgOpen
import Derived.Test.YbulkawqgTarjan4
namespace Go.Proofs.Ybulkawqg
open Go.RowKit

theorem Yba.info56 : (Yba.prog.info? 56).map (fun i => (i.zero, i.size, i.bytes)) = some (some (.slice none 0 0), 1, 24) := by kernel_rfl
theorem Yba.info4 : (Yba.prog.info? 4).map (fun i => (i.zero, i.size, i.bytes)) = some (some (.bool false), 1, 1) := by kernel_rfl

/-- The adjacency rows as they are read. -/
def AdjAt (w : World) (gb n : Nat) (adj : Nat → List Nat) : Prop :=
  ∀ u, u < n → gb < w.heap.size ∧ (adj u).length ≤ 1024 ∧ (∀ v, v ∈ adj u → v < n) ∧ ∃ ao cap, w.cell? ⟨gb, u, none⟩ = some (.slice ao (adj u).length cap) ∧ RowI w ao (ints (adj u)) ∧ ∀ a, ao = some a → a.block < w.heap.size

theorem adjAt_of_gr {w0 w : World} {gb n k : Nat} {vs : Nat → Value} {adj : Nat → List Nat} (h : Gr w0 w gb n k vs adj) (hk : k ≤ 1024) : AdjAt w gb n adj := fun u hu => by
  obtain ⟨ao, cap, e, hr, hb⟩ := rowI_of_own (h.own u hu)
  exact ⟨h.row.lt, by have := (h.low u hu).2; omega, (h.low u hu).1, ao, cap, by rw [← e]; exact h.row.cell hu, hr, hb⟩

theorem rowI_below {w w' : World} {B : Nat} {ao : Option Addr} {zs : List Int} (h : RowI w ao zs) (hb : Below B w w') (hlt : ∀ a, ao = some a → a.block < B) : RowI w' ao zs := fun j hj => by
  obtain ⟨b, off, e, hc⟩ := h j hj
  exact ⟨b, off, e, (hb.cell (p := ⟨b, off + j, none⟩) (show b < B from hlt ⟨b, off, none⟩ e)).trans hc⟩

theorem AdjAt.below {w w' : World} {gb n : Nat} {adj : Nat → List Nat} (h : AdjAt w gb n adj) (hb : Below w.heap.size w w') : AdjAt w' gb n adj := fun u hu => by
  obtain ⟨h1, h2, h3, ao, cap, h4, h5, h6⟩ := h u hu
  exact ⟨Nat.lt_of_lt_of_le h1 hb.size, h2, h3, ao, cap, (hb.cell (p := ⟨gb, _, none⟩) h1).trans h4, rowI_below h5 hb h6, fun a ha => Nat.lt_of_lt_of_le (h6 a ha) hb.size⟩

/-- The rows of Bools, m of them made. -/
structure Mat (w0 w : World) (rb n m : Nat) (R : Nat → Nat → Bool) : Prop where
  row : w.rowIs rb 56 n (fun i => if i < m then .slice (some ⟨rb + 1 + i, 0, none⟩) n n else .slice none 0 0)
  rows : ∀ i, i < m → w.rowIs (rb + 1 + i) 4 n (fun j => .bool (R i j))
  size : w.heap.size = rb + 1 + m
  old : Below rb w0 w

theorem Mat.start (w : World) (n : Nat) : Mat w (w.alloc (.cells (madeCells #[.slice none 0 0] n) 56)) w.heap.size n 0 (fun _ _ => false) :=
  ⟨(World.rowIs_made w _ n 56).congr (fun i _ => by simp), fun i hi => by omega, by simp, (Below.refl _ _).alloc (Nat.le_refl _) _⟩

theorem Mat.next {w0 w : World} {rb n m : Nat} {R : Nat → Nat → Bool} (h : Mat w0 w rb n m R) :
    Mat w0 ((w.alloc (.cells (madeCells #[.bool false] n) 4)).setCell ⟨rb, m, none⟩ (.slice (some ⟨rb + 1 + m, 0, none⟩) n n)) rb n (m + 1) (fun i j => if i = m then false else R i j) := by
  have hs := h.size
  refine ⟨?_, ?_, ?_, ?_⟩
  · refine ((h.row.alloc _).set m _).congr (fun i hi => ?_)
    by_cases e : i = m
    · subst e; simp
    · simp only [if_neg e]
      by_cases hlt : i < m
      · rw [if_pos hlt, if_pos (by omega)]
      · rw [if_neg hlt, if_neg (by omega)]
  · intro i hi
    by_cases e : i = m
    · subst e
      have := World.rowIs_made w (.bool false) n 4
      rw [hs] at this
      exact (this.setOther (a := ⟨rb, i, none⟩) (by simp; omega) _).congr (fun j _ => by simp)
    · simp only [if_neg e]
      exact ((h.rows i (by omega)).alloc _).setOther (by simp; omega) _
  · show (World.setCell _ _ _).heap.size = _
    simp [World.setCell]; omega
  · exact (h.old.alloc (by omega) _).setCell (Nat.le_refl _) _

theorem Mat.turn {w0 w : World} {rb n m i j : Nat} {R : Nat → Nat → Bool} (h : Mat w0 w rb n m R) (hi : i < m) :
    Mat w0 (w.setCell ⟨rb + 1 + i, j, none⟩ (.bool true)) rb n m (Plain.put R i j) := by
  refine ⟨h.row.setOther (by simp; omega) _, ?_, ?_, h.old.setCell (by simp; omega) _⟩
  · intro i' hi'
    by_cases e : i' = i
    · subst e
      refine ((h.rows i' hi').set j _).congr (fun j' _ => ?_)
      unfold Plain.put
      by_cases e : j' = j <;> simp [e]
    · refine ((h.rows i' hi').setOther (by simp; omega) _).congr (fun j' _ => ?_)
      simp [Plain.put, e]
  · have := h.size
    simp [World.setCell]; omega

theorem Mat.cellRow {w0 w : World} {rb n m i : Nat} {R : Nat → Nat → Bool} (h : Mat w0 w rb n m R) (hi : i < m) (hn : i < n) : w.cell? ⟨rb, i, none⟩ = some (.slice (some ⟨rb + 1 + i, 0, none⟩) n n) := by
  have := h.row.cell hn
  simpa [hi] using this

set_option maxRecDepth 100000 in
set_option maxHeartbeats 1600000 in
theorem reach_any (gb n : Nat) (adj : Nat → List Nat) (w : World) (hn1 : 1 ≤ n) (hn2 : n ≤ 12) (hadj : AdjAt w gb n adj) :
    Calls Yba.prog 13 #[.slice (some ⟨gb, 0, none⟩) n n] w fun e w' => ∃ R, e = .returned (.slice (some ⟨w.heap.size, 0, none⟩) n n) ∧ Mat w w' w.heap.size n n R ∧ ∀ i j, i < n → j < n → (R i j = true ↔ Plain.Reach adj i j) := by
  have hmk := run_make_row' (P := Yba.prog) 42 56 (.slice none 0 0) 24 Yba.underlying42 Yba.info56 rfl .i64 .i64 n (by omega) (by omega)
  have hmb := run_make_row' (P := Yba.prog) 56 4 (.bool false) 1 Yba.underlying56 Yba.info4 rfl .i64 .i64 n (by omega) (by omega)
  go_enter Yba.func13, Yba.ntmps13
  go_wp2
  have hm0 := Mat.start w n
  generalize hrb : w.heap.size = rb at *
  have HRB : Hid (w.heap.size = rb) := hrb
  clear hrb hmk
  go_loopw [5] (fun i wr => ∃ k : Nat, k ≤ n ∧ i = .int .i64 k ∧ ∃ R, Mat w wr rb n k R ∧ ∀ i' j, i' < k → j < n → (R i' j = true ↔ i' = j ∨ j ∈ adj i')) (fun i _ => n - (intOf i).toNat)
  case atStart => exact ⟨0, Nat.zero_le _, rfl, _, hm0, fun i' j h => by omega⟩
  case round =>
    clear hm0
    obtain ⟨k, hk, rfl, R, hm, hR⟩ := hrel
    by_cases hlt : k < n
    · have hsz := hm.size
      have hce : (wr.alloc (.cells (madeCells #[.bool false] n) 4)).cell? ⟨rb, k, none⟩ = some (.slice none 0 0) := by have := (hm.row.alloc (.cells (madeCells #[.bool false] n) 4)).cell hlt; simpa using this
      have hcf := (hm.row.alloc (.cells (madeCells #[.bool false] n) 4)).frozen k
      have hm2 := hm.next
      have c1 := hm2.cellRow (Nat.lt_succ_self k) hlt
      have c2 := (hm2.rows k (Nat.lt_succ_self k)).cell hlt
      have f2 := (hm2.rows k (Nat.lt_succ_self k)).frozen k
      have hm3 := hm2.turn (j := k) (Nat.lt_succ_self k)
      obtain ⟨hgb, hal, han, ao, cp, hac, har, hab⟩ := hadj k hlt
      have hgb' : gb < rb := by rw [← HRB.out]; exact hgb
      have c3 := (hm3.old.cell (p := ⟨gb, k, none⟩) hgb').trans hac
      have HM : Hid (Mat w _ rb n (k + 1) _) := hm3
      clear hm2 hm hm3
      go_wp2_with fail
      generalize ((wr.alloc (.cells (madeCells #[.bool false] n) 4)).setCell ⟨rb, k, none⟩ (.slice (some ⟨rb + 1 + k, 0, none⟩) n n)).setCell ⟨rb + 1 + k, k, none⟩ (.bool true) = w3 at *
      have hR3 : ∀ i' j, i' < k + 1 → j < n → (Plain.put (fun i j => if i = k then false else R i j) k k i' j = true ↔ (if i' = k then k = j else i' = j ∨ j ∈ adj i')) := by
        intro i' j hi' hj
        by_cases e : i' = k
        · subst e; simp [Plain.put, eq_comm]
        · simp [Plain.put, e, hR i' j (by omega) hj]
      generalize Plain.put (fun i j => if i = k then false else R i j) k k = R3 at *
      clear c1 c2 c3 f2 hce hcf hsz hR
      go_loopw [36] (fun t wi => ∃ m : Nat, m ≤ (adj k).length ∧ t = .int .i64 m ∧ ∃ Ri, Mat w wi rb n (k + 1) Ri ∧ ∀ i' j, i' < k + 1 → j < n → (Ri i' j = true ↔ (if i' = k then k = j ∨ j ∈ (adj k).take m else i' = j ∨ j ∈ adj i'))) (fun t _ => (adj k).length - (intOf t).toNat)
      case atStart => exact ⟨0, Nat.zero_le _, rfl, R3, HM.out, fun i' j hi' hj => by rw [hR3 i' j hi' hj]; simp⟩
      case round =>
        clear HM hR3
        obtain ⟨m, hmm, rfl, Ri, hM, hRi⟩ := hrel
        by_cases hml : m < (adj k).length
        · obtain ⟨b, off, hao, hcell⟩ := har m (by rw [length_ints]; exact hml)
          have hbl : b < rb := by have := hab _ hao; rw [HRB.out] at this; exact this
          have hvn : (adj k)[m] < n := han _ (List.getElem_mem hml)
          have hgt : (ints (adj k)).getD m 0 = ((adj k)[m] : Int) := by simp [ints, hml]
          have htk : Hid ((adj k).take (m + 1) = (adj k).take m ++ [(adj k)[m]]) := List.take_succ_eq_append_getElem hml
          rw [hgt] at hcell
          generalize (adj k)[m] = v at *
          subst hao
          replace hcell := (hM.old.cell (p := ⟨b, off + m, none⟩) hbl).trans hcell
          have e1 := hM.cellRow (Nat.lt_succ_self k) hlt
          have e2 := (hM.rows k (Nat.lt_succ_self k)).cell hvn
          have e3 := (hM.rows k (Nat.lt_succ_self k)).frozen v
          have hvi : (v : Int) < (n : Int) := by omega
          have HM2 : Hid (Mat w _ rb n (k + 1) _) := hM.turn (j := v) (Nat.lt_succ_self k)
          clear hM har hac hgt hab hadj
          go_wp2
          go_roundw
          case rel => exact ⟨m + 1, by omega, by go_num, _, HM2.out, fun i' j hi' hj => by
            rw [htk.out]
            by_cases e : i' = k
            · subst e
              have := hRi i' j hi' hj
              simp only [if_true] at this ⊢
              by_cases ev : j = v
              · subst ev; simp [Plain.put]
              · have hp : Plain.put Ri i' v i' j = Ri i' j := by simp [Plain.put, ev]
                rw [hp, this]; simp [ev]
            · have := hRi i' j hi' hj
              simp only [if_neg e] at this ⊢
              simp only [Plain.put, if_neg e, this]⟩
          case measure => simp [intOf]; omega
        · have hme : m = (adj k).length := by omega
          subst hme
          clear har hac hadj
          go_wp2
          go_roundw
          case rel => exact ⟨k + 1, by omega, by go_num, Ri, hM, fun i' j hi' hj => by
            have := hRi i' j hi' hj
            by_cases e : i' = k
            · subst e; simpa using this
            · simpa [e] using this⟩
          case measure => simp [intOf]; omega
    · have hkn : n = k := by omega
      subst hkn
      clear hmb
      have hf0 : Plain.Full adj n 0 R := fun i j hi hj hv => (hR i j hi hj).2 hv
      have hs0 : Plain.Sound adj n R := fun i j hi hj h => by
        rcases (hR i j hi hj).1 h with h | h
        · rw [h]; exact Plain.Reach.refl _
        · exact Plain.Reach.edge h
      have hA : Hid (∀ u, u < n → ∀ x, x ∈ adj u → x < n) := fun u hu x hx => (hadj u hu).2.2.1 x hx
      clear hR hadj hlt hk
      go_wp2_with fail
      go_loopw [8] (fun i wr => ∃ k : Nat, k ≤ n ∧ i = .int .i64 k ∧ ∃ R, Mat w wr rb n n R ∧ Plain.Sound adj n R ∧ Plain.Full adj n k R) (fun i _ => n - (intOf i).toNat)
      case atStart => exact ⟨0, Nat.zero_le _, rfl, R, hm, hs0, hf0⟩
      case round =>
        clear hm hs0 hf0 R
        obtain ⟨k, hk, rfl, R, hm, hs, hf⟩ := hrel
        by_cases hkn : k < n
        · go_wp2_with fail
          go_loopw [9] (fun i wr => ∃ m : Nat, m ≤ n ∧ i = .int .i64 m ∧ ∃ R, Mat w wr rb n n R ∧ Plain.Sound adj n R ∧ Plain.Full adj n k R ∧ Plain.Rows adj n k m R) (fun i _ => n - (intOf i).toNat)
          case atStart => exact ⟨0, Nat.zero_le _, rfl, R, hm, hs, hf, fun i' j h => by omega⟩
          case round =>
            clear hm hs hf R
            obtain ⟨m, hmn, rfl, R, hm, hs, hf, hrw⟩ := hrel
            by_cases hml : m < n
            · have e1 := hm.cellRow hml hml
              have e2 := (hm.rows m hml).cell hkn
              have hki : (k : Int) < (n : Int) := by omega
              by_cases hb : R m k = true
              · go_wp2_with fail
                go_loopw [10] (fun i wr => ∃ j : Nat, j ≤ n ∧ i = .int .i64 j ∧ ∃ R, Mat w wr rb n n R ∧ Plain.Sound adj n R ∧ Plain.Full adj n k R ∧ Plain.Rows adj n k m R ∧ Hid (R m k = true) ∧ Hid (∀ j', j' < j → Plain.Via adj k k j' → R m j' = true)) (fun i _ => n - (intOf i).toNat)
                case atStart => exact ⟨0, Nat.zero_le _, rfl, R, hm, hs, hf, hrw, hb, fun j' h => by omega⟩
                case round =>
                  clear hm hs hf hrw hb e1 e2 R
                  obtain ⟨j, hjn, rfl, R, hm, hs, hf, hrw, hb, hv⟩ := hrel
                  by_cases hjl : j < n
                  · have e1 := hm.cellRow hkn hkn
                    have e2 := (hm.rows k hkn).cell hjl
                    have e3 := hm.cellRow hml hml
                    have e4 := (hm.rows m hml).cell hjl
                    have e5 := (hm.rows m hml).frozen j
                    have hji : (j : Int) < (n : Int) := by omega
                    by_cases hc : R k j = true
                    · have HT : Hid (Mat w _ rb n n _) := hm.turn (j := j) hml
                      have hre : Plain.Reach adj m j := (hs m k hml hkn hb.out).trans (hs k j hkn hjl hc)
                      clear hm
                      go_wp2
                      go_roundw
                      case rel => exact ⟨j + 1, by omega, by go_num, Plain.put R m j, HT.out, hs.put hre, hf.put, hrw.put, Plain.put_keeps hb.out, fun j' hj' hvi => by
                        by_cases e : j' = j
                        · rw [e]; exact Plain.put_self _ _ _
                        · exact Plain.put_keeps (hv.out j' (by omega) hvi)⟩
                      case measure => simp [intOf]; omega
                    · have hc' : R k j = false := by simpa using hc
                      have hnv : Hid (¬ Plain.Via adj k k j) := fun h => hc (hf k j hkn hjl h)
                      clear hc
                      go_wp2
                      go_roundw
                      case rel => exact ⟨j + 1, by omega, by go_num, R, hm, hs, hf, hrw, hb, fun j' hj' hvi => by
                        by_cases e : j' = j
                        · rw [e] at hvi; exact absurd hvi hnv.out
                        · exact hv.out j' (by omega) hvi⟩
                      case measure => simp [intOf]; omega
                  · go_wp2
                    go_roundw
                    case rel => exact ⟨m + 1, by omega, by go_num, R, hm, hs, hf, Plain.rows_take hml hf hrw (fun j' hj' hvi => hv.out j' (by omega) hvi)⟩
                    case measure => simp [intOf]; omega
              · have hb' : R m k = false := by simpa using hb
                clear hb
                go_wp2
                go_roundw
                case rel => exact ⟨m + 1, by omega, by go_num, R, hm, hs, hf, Plain.rows_skip hml hkn hf hrw hb'⟩
                case measure => simp [intOf]; omega
            · go_wp2_with fail
              go_roundw
              case rel => exact ⟨k + 1, by omega, by go_num, R, hm, hs, Plain.rows_end (fun i' j hi' hj hv => hrw i' j (by omega) hj hv)⟩
              case measure => simp [intOf]; omega
        · have hkn' : n = k := by omega
          have hfin := Plain.full_end hA.out hs (by rw [hkn'] at hf ⊢; exact hf)
          clear hkn'
          go_wp2_with fail
          go_ret
          exact ⟨R, by rw [HRB.out]; rfl, by rw [HRB.out]; exact hm, hfin⟩
end Go.Proofs.Ybulkawqg
