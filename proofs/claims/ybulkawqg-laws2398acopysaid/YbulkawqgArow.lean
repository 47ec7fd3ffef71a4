/-
  LawS2398ACopy: the row.
-/
import Derived.Test.YbulkawqgAlaw
import Derived.Test.YbulkawqgAopen
import Derived.OpenShut
namespace Go.Proofs.Ybulkawqg.A
open Go.ChangeShapes Go.WideShapes Go.ChangeAt Go.RowKit

theorem array8 {α : Type} {cs : Array α} (h : cs.size = 8) : ∃ c0 c1 c2 c3 c4 c5 c6 c7, cs = #[c0, c1, c2, c3, c4, c5, c6, c7] := by
  obtain ⟨l⟩ := cs
  match l, h with
  | [c0, c1, c2, c3, c4, c5, c6, c7], _ => exact ⟨c0, c1, c2, c3, c4, c5, c6, c7, rfl⟩

theorem state_open {H : Type} {enc : TypeId × Value → H} {W : World} {base : Nat} {v : Value} {d : DataW H} {p : List MemPlace} (hv : Value.okWide Yba.prog W .any base 25 v) (h : DataW.Trod enc Yba.prog W 0 (fun _ => true) true 25 v d p) :
    ∃ (t : Dat) (aA aB aC : Option Addr) (cA cB cC : Nat), v = .agg #[.int .i64 t.p, .int .i64 t.j, .int .i64 t.run, .int .i64 t.lim, .int .i64 t.tie, .slice aA t.qa.length cA, .slice aB t.qb.length cB, .slice aC t.zc.length cC] ∧
      DIn W t aA aB aC ∧ ((∀ n ∈ d.weights Yba.prog 25, n ≤ reachBytes) → Bounded t.qa ∧ Bounded t.qb) := by
  obtain ⟨cs, rfl, hcs⟩ := okWide_struct Yba.underlying25 hv
  rw [cells25] at hcs
  obtain ⟨c0, c1, c2, c3, c4, c5, c6, c7, rfl⟩ := array8 hcs
  obtain ⟨fuel, hf0⟩ := h
  obtain ⟨xs, k, _, hxy, _, hxl, hf⟩ := DataW.trod_struct Yba.underlying25 hf0
  match xs, hxl with
  | [y0, y1, y2, y3, y4, y5, y6, y7], _ =>
    have g0 := hf 0 _ rfl
    have g1 := hf 1 _ rfl
    have g2 := hf 2 _ rfl
    have g3 := hf 3 _ rfl
    have g4 := hf 4 _ rfl
    have g5 := hf 5 _ rfl
    have g6 := hf 6 _ rfl
    have g7 := hf 7 _ rfl
    simp [Value.cells, cells3, cells22, cells23] at g0 g1 g2 g3 g4 g5 g6 g7
    obtain ⟨z0, e0, _, _⟩ := DataW.trod_int Yba.underlying3 g0
    obtain ⟨z1, e1, _, _⟩ := DataW.trod_int Yba.underlying3 g1
    obtain ⟨z2, e2, _, _⟩ := DataW.trod_int Yba.underlying3 g2
    obtain ⟨z3, e3, _, _⟩ := DataW.trod_int Yba.underlying3 g3
    obtain ⟨z4, e4, _, _⟩ := DataW.trod_int Yba.underlying3 g4
    obtain ⟨aA, cA, qa, e5, kA, nA, bA⟩ := kinds_open g5
    obtain ⟨aB, cB, qb, e6, kB, nB, bB⟩ := kinds_open g6
    obtain ⟨aC, cC, zc, e7, kC, nC⟩ := ints_open g7
    simp only [List.cons.injEq, and_true] at e0 e1 e2 e3 e4 e5 e6 e7
    subst e0 e1 e2 e3 e4 e5 e6 e7
    refine ⟨⟨z0, z1, z2, z3, z4, qa, qb, zc⟩, aA, aB, aC, cA, cB, cC, rfl, ⟨kA, kB, kC, nA, nB, nC⟩, fun hw => ?_⟩
    simp only [Prod.mk.injEq] at hxy
    rw [hxy.1] at hw
    simp only [DataW.weights, Yba.underlying25, List.map_cons, List.map_nil, DataW.weightsEach, List.mem_append] at hw
    exact ⟨bA fun n hn => hw n (by simp [hn]), bB fun n hn => hw n (by simp [hn])⟩

set_option maxRecDepth 100000 in
theorem acopy_lifted (os : Os) (started : os.Started) (H : Type) (enc : TypeId × Value → H) :
    ReturnsInHanded {} Yba.checked os 3 .any (Rows.lawS2398ACopySpec.pre6 enc Yba.prog Yba.f3 Rows.lawS2398ACopyRow.domain false) (Rows.lawS2398ACopySpec.post enc Yba.prog Yba.f3 false true false false) := by
  refine returnsInHanded_of_change_sized (C := Yba.checked) own0 started (by kernel_rfl) Yba.func3
    (ChangeSpec.witness6 (enc := enc) (C := Yba.checked) false ⟨#[], #[.agg #[.int .i64 0, .int .i64 0, .int .i64 0, .int .i64 0, .int .i64 0, .slice none 0 0, .slice none 0 0, .slice none 0 0], .agg #[.int .i64 0, .int .i64 0, .int .i64 0, .int .i64 0, .int .i64 0, .slice none 0 0, .slice none 0 0, .slice none 0 0]], []⟩ 8 (by kernel_rfl) (by kernel_rfl) (by kernel_rfl) (by kernel_rfl)) ?_
  intro W base args ds gs before hval0 hW hcnd hsz _
  have hval : ∀ (j : Nat) t v, Yba.f3.params[j]? = some t → args[j]? = some v → Value.okWide Yba.prog W .any base t v := hval0
  have hW' := hW
  obtain ⟨p, q, hA0, hV, rfl, hfz, hnd⟩ := hW
  have hA : DataW.TrodAll enc Yba.prog W 0 (fun _ => true) true Yba.f3.params.toList args.toList ds p := hA0
  rw [Yba.params3] at hA hval hsz
  obtain ⟨v0, vs0, d0, ds0, p0, q0, hargs, rfl, rfl, h0, r0⟩ := trodAll_cons hA
  obtain ⟨v1, vs1, d1, ds1, p1, q1, rfl, rfl, rfl, h1, r1⟩ := trodAll_cons r0
  obtain ⟨rfl, rfl, rfl⟩ := trodAll_nil r1
  obtain rfl : args = #[v0, v1] := by cases args; simp_all
  obtain ⟨rfl, rfl⟩ := trodVars_none hV
  have lt0 : ∀ x ∈ p0, x.block < W.heap.size := by obtain ⟨m, hm⟩ := h0; exact DataW.trod_lt m _ _ _ hm
  have lt1 : ∀ x ∈ p1, x.block < W.heap.size := by obtain ⟨m, hm⟩ := h1; exact DataW.trod_lt m _ _ _ hm
  obtain ⟨o, aA, aB, aC, cA, cB, cC, rfl, ho, hob⟩ := state_open (hval 0 25 v0 rfl rfl) h0
  obtain ⟨s, eA, eB, eC, fA, fB, fC, rfl, hs, _⟩ := state_open (hval 1 25 v1 rfl rfl) h1
  have hw0 : ∀ n ∈ d0.weights Yba.prog 25, n ≤ reachBytes := fun n hn => of_decide_eq_true (List.all_eq_true.1 hsz n (by
    show n ∈ DataW.weights Yba.prog 25 d0 ++ _
    exact List.mem_append.2 (.inl hn)))
  obtain ⟨hqa, hqb⟩ := hob hw0
  clear hA0 hval0
  refine (acopy_any o s aA aB aC eA eB eC cA cB cC fA fB fC W ho hs hqa hqb).mono fun e W' ⟨he, bel⟩ => ?_
  subst he
  exact ⟨_, rfl, _, _, _, [], _, [], hW', trodAll_mk1 (shut_bool Yba.underlying4 _), (trodAll_cons_mk (Below.trod laidOut0 (by kernel_rfl) (of_decide_eq_true (by kernel_rfl)) h0 bel lt0)
    (trodAll_cons_mk (Below.trod laidOut0 (by kernel_rfl) (of_decide_eq_true (by kernel_rfl)) h1 bel lt1) trodAll_mk0)), rfl, bel.frame _, fun h => by cases h⟩

end Go.Proofs.Ybulkawqg.A

namespace Go.Proofs.Ybulkawqg
open Go.ChangeShapes Go.WideShapes Go.ChangeAt Go.RowKit

theorem acopy_holds : Rows.LawS2398ACopySaid :=
  OpenClaim.holds_of_wide 3 Yba.f3 rfl rfl rfl rfl rfl rfl rfl ⟨rfl, rfl, rfl, rfl, rfl⟩ rfl rfl rfl rfl rfl (by kernel_rfl) Yba.func3 (by kernel_rfl)
    (of_decide_eq_true (by kernel_rfl)) (by unfold Func.isWrapper; first | (rw [if_pos (by decide +kernel)]; kernel_rfl) | (rw [if_neg (by decide +kernel)]; exact ⟨rfl, rfl⟩))
    (fun os started H enc _ => A.acopy_lifted os started H enc)
end Go.Proofs.Ybulkawqg
