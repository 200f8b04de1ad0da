/-
  No cell of these rows narrows 'for every input' (looked for: loops, veiled, ifaces, maps, wideKeys, modest, calm, conditions, laid).
  DERIVED. THE GIVEN ROWS OF THIS SEAT. 2 by the template 'for every input the law returns true; each argument reads behind the call as it read before'; 0 by the template 'total and deterministic' (their statements: YbulkudwTotals.lean).
  GIVEN WITH THE SEED: the statements are not yours to turn. If you find one false, say at which input.
  Laid BY PROGRAM, IN A SANDBOX (cutbox-rows.mjs): the forced cells as the released guide's own fill.sh prints them over the translation 423cb19d25428cf1… (all of the seat's roots in one cut). By AI agents, Wed Nov 11 2026. No macro, syntax, notation, axiom, sorry.
-/
import Derived.Test.YbulkudwChecked
import GoSem.Claim
import GoSem.ClaimJoined
import GoSem.ClaimMapViews
import Derived.JoinedTies
import Derived.KernelRfl
namespace Go.Proofs.Ybulkudw
/- THE CELL 'sum', in the pinned program and in every row, IS THE sha256 OF THE DUMP (.gsa) THAT YbulkudwProg.lean LOADS. Nothing in Lean hashes anything: it is a label: what it is worth is what the hold of that sum in a sandbox is worth. -/
noncomputable def Yba.pinned : Pinned := { name := "ybulkudw", sum := "423cb19d25428cf118175563eae34bd76d39e0a9605cfcaa1230b90ac380740c", checked := Yba.checked }
namespace Rows
def none {H : Type} : Left H := { results := [], args := [] }

/-- 'timetext.LawS1023AShape': WHATEVER THE INPUT: true; the input reads as it did. -/
def lawS1023AShapeSpec : ChangeSpec := { name := "lawS1023AShape", fn := fun _ => fun
  | [d1, d2, d3, d4, d5, d6, d7, d8, d9, d10] => { results := [.lit (.bool true)], args := [d1, d2, d3, d4, d5, d6, d7, d8, d9, d10] }
  | _ => none }
def lawS1023AShapeRow : OpenClaim := { program := "ybulkudw", sum := "423cb19d25428cf118175563eae34bd76d39e0a9605cfcaa1230b90ac380740c", func := "example.com/countersign/countersign/internal/timetext.LawS1023AShape", spec := "lawS1023AShape", apart := false }
def LawS1023AShapeSaid : Prop := lawS1023AShapeRow.holds Yba.pinned (OpenSpec.ofChange lawS1023AShapeSpec)

/-- ITS FALSE NEIGHBOUR: 'it returns false'. Refute it at one input. -/
def lawS1023AShapeWrong : ChangeSpec := { name := "lawS1023AShape", fn := fun _ => fun
  | [d1, d2, d3, d4, d5, d6, d7, d8, d9, d10] => { results := [.lit (.bool false)], args := [d1, d2, d3, d4, d5, d6, d7, d8, d9, d10] }
  | _ => none }
def LawS1023AShapeWrongFalsely : Prop := lawS1023AShapeRow.holds Yba.pinned (OpenSpec.ofChange lawS1023AShapeWrong)

/-- 'timetext.LawS1023ANecessary': WHATEVER THE INPUT: true; the input reads as it did. -/
def lawS1023ANecessarySpec : ChangeSpec := { name := "lawS1023ANecessary", fn := fun _ => fun
  | [d] => { results := [.lit (.bool true)], args := [d] }
  | _ => none }
def lawS1023ANecessaryRow : OpenClaim := { program := "ybulkudw", sum := "423cb19d25428cf118175563eae34bd76d39e0a9605cfcaa1230b90ac380740c", func := "example.com/countersign/countersign/internal/timetext.LawS1023ANecessary", spec := "lawS1023ANecessary", apart := false }
def LawS1023ANecessarySaid : Prop := lawS1023ANecessaryRow.holds Yba.pinned (OpenSpec.ofChange lawS1023ANecessarySpec)

/-- ITS FALSE NEIGHBOUR: 'it returns false'. Refute it at one input. -/
def lawS1023ANecessaryWrong : ChangeSpec := { name := "lawS1023ANecessary", fn := fun _ => fun
  | [d] => { results := [.lit (.bool false)], args := [d] }
  | _ => none }
def LawS1023ANecessaryWrongFalsely : Prop := lawS1023ANecessaryRow.holds Yba.pinned (OpenSpec.ofChange lawS1023ANecessaryWrong)

end Rows
end Go.Proofs.Ybulkudw
