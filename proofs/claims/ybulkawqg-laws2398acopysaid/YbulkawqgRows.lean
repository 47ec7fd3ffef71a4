/-
  No cell of these rows narrows 'for every input' (looked for: loops, veiled, ifaces, maps, wideKeys, modest, calm, conditions, laid).
  DERIVED. THE GIVEN ROWS OF THIS SEAT. 5 by the template 'for every input the law returns true; each argument reads behind the call as it read before'; 0 by the template 'total and deterministic' (their statements: YbulkawqgTotals.lean).
  GIVEN WITH THE SEED: the statements are not yours to turn. If you find one false, say at which input.
  Laid BY PROGRAM, IN A SANDBOX (cutbox-rows.mjs): the forced cells as the released guide's own fill.sh prints them over the translation 51881c13c67652ce… (all of the seat's roots in one cut). By AI agents, Wed Nov 11 2026. No macro, syntax, notation, axiom, sorry.
-/
import Derived.Test.YbulkawqgChecked
import GoSem.Claim
import GoSem.ClaimJoined
import GoSem.ClaimMapViews
import Derived.JoinedTies
import Derived.KernelRfl
namespace Go.Proofs.Ybulkawqg
/- THE CELL 'sum', in the pinned program and in every row, IS THE sha256 OF THE DUMP (.gsa) THAT YbulkawqgProg.lean LOADS. Nothing in Lean hashes anything: it is a label: what it is worth is what the hold of that sum in a sandbox is worth. -/
noncomputable def Yba.pinned : Pinned := { name := "ybulkawqg", sum := "51881c13c67652ce57a60b34ded0296e9b1bef9cd618cdcffd8ec70b1cc3fb60", checked := Yba.checked }
namespace Rows
def none {H : Type} : Left H := { results := [], args := [] }

/-- 'doppel.LawS2398ACopy': WHATEVER THE INPUT: true; the input reads as it did. -/
def lawS2398ACopySpec : ChangeSpec := { name := "lawS2398ACopy", fn := fun _ => fun
  | [d1, d2] => { results := [.lit (.bool true)], args := [d1, d2] }
  | _ => none }
def lawS2398ACopyRow : OpenClaim := { program := "ybulkawqg", sum := "51881c13c67652ce57a60b34ded0296e9b1bef9cd618cdcffd8ec70b1cc3fb60", func := "example.com/doppel/doppel.LawS2398ACopy", spec := "lawS2398ACopy", plainKeys := false, apart := false }
def LawS2398ACopySaid : Prop := lawS2398ACopyRow.holds Yba.pinned (OpenSpec.ofChange lawS2398ACopySpec)

/-- ITS FALSE NEIGHBOUR: 'it returns false'. Refute it at one input. -/
def lawS2398ACopyWrong : ChangeSpec := { name := "lawS2398ACopy", fn := fun _ => fun
  | [d1, d2] => { results := [.lit (.bool false)], args := [d1, d2] }
  | _ => none }
def LawS2398ACopyWrongFalsely : Prop := lawS2398ACopyRow.holds Yba.pinned (OpenSpec.ofChange lawS2398ACopyWrong)

/-- 'doppel.LawS2398ASelf': WHATEVER THE INPUT: true; the input reads as it did. -/
def lawS2398ASelfSpec : ChangeSpec := { name := "lawS2398ASelf", fn := fun _ => fun
  | [d] => { results := [.lit (.bool true)], args := [d] }
  | _ => none }
def lawS2398ASelfRow : OpenClaim := { program := "ybulkawqg", sum := "51881c13c67652ce57a60b34ded0296e9b1bef9cd618cdcffd8ec70b1cc3fb60", func := "example.com/doppel/doppel.LawS2398ASelf", spec := "lawS2398ASelf", plainKeys := false, apart := false }
def LawS2398ASelfSaid : Prop := lawS2398ASelfRow.holds Yba.pinned (OpenSpec.ofChange lawS2398ASelfSpec)

/-- ITS FALSE NEIGHBOUR: 'it returns false'. Refute it at one input. -/
def lawS2398ASelfWrong : ChangeSpec := { name := "lawS2398ASelf", fn := fun _ => fun
  | [d] => { results := [.lit (.bool false)], args := [d] }
  | _ => none }
def LawS2398ASelfWrongFalsely : Prop := lawS2398ASelfRow.holds Yba.pinned (OpenSpec.ofChange lawS2398ASelfWrong)

/-- 'doppel.LawS2398BReach': WHATEVER THE INPUT: true; the input reads as it did. -/
def lawS2398BReachSpec : ChangeSpec := { name := "lawS2398BReach", fn := fun _ => fun
  | [d1, d2, d3] => { results := [.lit (.bool true)], args := [d1, d2, d3] }
  | _ => none }
def lawS2398BReachRow : OpenClaim := { program := "ybulkawqg", sum := "51881c13c67652ce57a60b34ded0296e9b1bef9cd618cdcffd8ec70b1cc3fb60", func := "example.com/doppel/doppel.LawS2398BReach", spec := "lawS2398BReach", unfollowed := true, recurses := true, plainKeys := false, apart := false }
def LawS2398BReachSaid : Prop := lawS2398BReachRow.holds Yba.pinned (OpenSpec.ofChange lawS2398BReachSpec)

/-- ITS FALSE NEIGHBOUR: 'it returns false'. Refute it at one input. -/
def lawS2398BReachWrong : ChangeSpec := { name := "lawS2398BReach", fn := fun _ => fun
  | [d1, d2, d3] => { results := [.lit (.bool false)], args := [d1, d2, d3] }
  | _ => none }
def LawS2398BReachWrongFalsely : Prop := lawS2398BReachRow.holds Yba.pinned (OpenSpec.ofChange lawS2398BReachWrong)

/-- 'doppel.LawS2398BComponents': WHATEVER THE INPUT: true; the input reads as it did. -/
def lawS2398BComponentsSpec : ChangeSpec := { name := "lawS2398BComponents", fn := fun _ => fun
  | [d1, d2] => { results := [.lit (.bool true)], args := [d1, d2] }
  | _ => none }
def lawS2398BComponentsRow : OpenClaim := { program := "ybulkawqg", sum := "51881c13c67652ce57a60b34ded0296e9b1bef9cd618cdcffd8ec70b1cc3fb60", func := "example.com/doppel/doppel.LawS2398BComponents", spec := "lawS2398BComponents", unfollowed := true, recurses := true, plainKeys := false, apart := false }
def LawS2398BComponentsSaid : Prop := lawS2398BComponentsRow.holds Yba.pinned (OpenSpec.ofChange lawS2398BComponentsSpec)

/-- ITS FALSE NEIGHBOUR: 'it returns false'. Refute it at one input. -/
def lawS2398BComponentsWrong : ChangeSpec := { name := "lawS2398BComponents", fn := fun _ => fun
  | [d1, d2] => { results := [.lit (.bool false)], args := [d1, d2] }
  | _ => none }
def LawS2398BComponentsWrongFalsely : Prop := lawS2398BComponentsRow.holds Yba.pinned (OpenSpec.ofChange lawS2398BComponentsWrong)

/-- 'doppel.LawS2398BCached': WHATEVER THE INPUT: true; the input reads as it did. -/
def lawS2398BCachedSpec : ChangeSpec := { name := "lawS2398BCached", fn := fun _ => fun
  | [d1, d2, d3, d4] => { results := [.lit (.bool true)], args := [d1, d2, d3, d4] }
  | _ => none }
def lawS2398BCachedRow : OpenClaim := { program := "ybulkawqg", sum := "51881c13c67652ce57a60b34ded0296e9b1bef9cd618cdcffd8ec70b1cc3fb60", func := "example.com/doppel/doppel.LawS2398BCached", spec := "lawS2398BCached", unfollowed := true, recurses := true, plainKeys := false, apart := false }
def LawS2398BCachedSaid : Prop := lawS2398BCachedRow.holds Yba.pinned (OpenSpec.ofChange lawS2398BCachedSpec)

/-- ITS FALSE NEIGHBOUR: 'it returns false'. Refute it at one input. -/
def lawS2398BCachedWrong : ChangeSpec := { name := "lawS2398BCached", fn := fun _ => fun
  | [d1, d2, d3, d4] => { results := [.lit (.bool false)], args := [d1, d2, d3, d4] }
  | _ => none }
def LawS2398BCachedWrongFalsely : Prop := lawS2398BCachedRow.holds Yba.pinned (OpenSpec.ofChange lawS2398BCachedWrong)

end Rows
end Go.Proofs.Ybulkawqg
