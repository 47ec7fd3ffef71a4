/-
  components' closure 'visit'.
-/
import Derived.Test.YbulkawqgRep
namespace Go.Proofs.Ybulkawqg
open Go.RowKit
open Plain (upd St)

set_option maxRecDepth 100000 in
set_option maxHeartbeats 1600000 in
theorem visit_any (w0 w : World) (B n v : Nat) (s : St) (sv wv : Value) (pe : Nat → Nat) (hv : v < n) (hvis : s.vis ≤ 12) (hsl : s.stk.length ≤ 12) (hwl : s.wlk.length ≤ 12) (hr : Rep w0 w B n s sv wv) :
    Calls Yba.prog 24 #[.int .i32 v, .pointer (some ⟨B + 7, 0, none⟩), .pointer (some ⟨B + 1, 0, none⟩), .pointer (some ⟨B + 3, 0, none⟩), .pointer (some ⟨B + 5, 0, none⟩), .pointer (some ⟨B + 6, 0, none⟩)] w
      fun e w' => e = .returned (.tuple #[]) ∧ ∃ sv' wv', Rep w0 w' B n (s.visit v s.wlk pe) sv' wv' := by
  obtain ⟨i0, hi, hz0, hz1, hz2⟩ := info_parts Yba.info21
  obtain ⟨j0, hj, hy0, hy1, hy2⟩ := info_parts Yba.info75
  have c1 := cell_of_one hr.visB
  have c2 := cell_of_one hr.ordB
  have c3 := cell_of_one hr.lowB
  obtain ⟨c4, f4⟩ := hr.cOrd hv
  obtain ⟨c5, f5⟩ := hr.cLow hv
  have hvi : (v : Int) < (n : Int) := by omega
  have HR : Hid (Rep w0 w B n s sv wv) := hr
  clear hr
  go_enter Yba.func24, Yba.ntmps24
  go_wp2_with fail
  go_region
  have hr1 := (((HR.out.drew).setOrd v s.vis).setLow v s.vis)
  have ew : ((w.drew.setCell ⟨B, v, none⟩ (.int .i32 (s.vis : Int))).setCell ⟨B + 2, v, none⟩ (.int .i32 (s.vis : Int))) = ((w.setCell ⟨B, v, none⟩ (.int .i32 (s.vis : Int))).setCell ⟨B + 2, v, none⟩ (.int .i32 (s.vis : Int))).drew := rfl
  rw [ew] at hr1
  generalize ((w.setCell ⟨B, v, none⟩ (.int .i32 (s.vis : Int))).setCell ⟨B + 2, v, none⟩ (.int .i32 (s.vis : Int))).drew = w1 at *
  clear ew c1 c2 c3 c4 f4 c5 f5 HR
  have d1 := cell_of_one hr1.visB
  have d2 := free_of_one hr1.visB
  simp only at d1
  have d3 := cell_of_one hr1.stkB
  have HR : Hid (Rep w0 w1 B n _ sv wv) := hr1
  clear hr1
  go_wp2_with (at_builtin; refine wpList_append_lies _ rfl _ _ 49 rfl (B + 8) 21 i0 (.int .i32 0) 1 4 Yba.underlying49 hi hz0 hz1 hz2 rfl (by decide) sv s.stk.length (i32s s.stk) rfl ?hown ⟨w1.heap.size, 0, none⟩ 1 1 [.int .i32 (v : Int)] rfl rfl ?hnews ?h1 (by decide) ?h63 ?hby ?hbase (w1.heap.size + 1) ?hH ?_)
  case hown => exact ((HR.out.setVis (s.vis + 1)).alloc _).stk
  case h1 => rfl
  case h63 => unfold maxLen; omega
  case hby => omega
  case hbase => have := lt_of_block HR.out.visB; omega
  intro g cap w2 hown hgrow _ _
  have hrv := ((HR.out.setVis (s.vis + 1)).alloc (.cells #[.int .i32 (v : Int)] 21))
  have d4 : w2.cell? ⟨B + 5, 0, none⟩ = some sv := cell_of_one (block_grown hgrow hrv.stkB (fun e => hrv.svOther (by omega) e.symm))
  have d5 : w2.frozen? ⟨B + 5, 0, none⟩ = false := free_of_one (block_grown hgrow hrv.stkB (fun e => hrv.svOther (by omega) e.symm))
  have hr2 := hrv.pushStk hown hgrow
  have d6 := cell_of_one hr2.wlkB
  have HR2 : Hid (Rep w0 _ B n _ _ wv) := hr2
  clear hr2 hrv hown hgrow HR d1 d2 d3
  go_wp2_with (at_builtin; refine wpList_append_lies _ rfl _ _ 73 rfl (B + 8) 75 j0 _ 2 16 Yba.underlying73 hj hy0 hy1 hy2 rfl (by decide) wv s.wlk.length (frs s.wlk) rfl ?k1 ⟨w2.heap.size, 0, none⟩ 1 1 [.int .i32 (v : Int), .int .i64 0] rfl rfl ?k2 ?k3 (by decide) ?k4 ?k5 ?k6 (w2.heap.size + 1) ?k7 ?_)
  case k1 => exact (HR2.out.alloc _).wlk
  case k3 => exact ⟨rfl, rfl⟩
  case k4 => unfold maxLen; omega
  case k5 => omega
  case k6 =>
    have := lt_of_block HR2.out.visB
    simp [World.setCell] at this
    omega
  intro g1 cap1 w3 hown hgrow _ _
  have hrv := HR2.out.alloc (.cells #[.int .i32 (v : Int), .int .i64 0] 75)
  have d7 : w3.cell? ⟨B + 6, 0, none⟩ = some wv := cell_of_one (block_grown hgrow hrv.wlkB (fun e => hrv.wvOther (by omega) e.symm))
  have d8 : w3.frozen? ⟨B + 6, 0, none⟩ = false := free_of_one (block_grown hgrow hrv.wlkB (fun e => hrv.wvOther (by omega) e.symm))
  have hr3 := hrv.pushWlk (v := v) (e := 0) hown hgrow
  have HR3 : Hid (Rep w0 _ B n _ _ _) := hr3
  clear hr3 hrv hown hgrow HR2 d4 d5 d6
  go_wp2
  go_end0
  exact ⟨rfl, _, _, ⟨HR3.out.ord, HR3.out.ordB, HR3.out.low, HR3.out.lowB, HR3.out.comp, HR3.out.stkB, HR3.out.wlkB, HR3.out.visB, HR3.out.stk, HR3.out.wlk, HR3.out.old⟩⟩
end Go.Proofs.Ybulkawqg
