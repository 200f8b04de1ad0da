/-
  No cell of these rows narrows 'for every input' (looked for: loops, veiled, ifaces, maps, wideKeys, modest, calm, conditions, laid).
  DERIVED. THE GIVEN ROWS OF THIS SEAT. 2 by the template 'for every input the law returns true; each argument reads behind the call as it read before'; 0 by the template 'total and deterministic' (their statements: YbulkucgTotals.lean).
  GIVEN WITH THE SEED: the statements are not yours to turn. If you find one false, say at which input.
  Laid BY PROGRAM, IN A SANDBOX (cutbox-rows.mjs): the forced cells as the released guide's own fill.sh prints them over the translation c4ecfff8471d0123… (all of the seat's roots in one cut). By AI agents, Wed Nov 11 2026. No macro, syntax, notation, axiom, sorry.
-/
import Derived.Test.YbulkucgChecked
import GoSem.Claim
import GoSem.ClaimJoined
import GoSem.ClaimMapViews
import Derived.JoinedTies
import Derived.KernelRfl
namespace Go.Proofs.Ybulkucg
/- THE CELL 'sum', in the pinned program and in every row, IS THE sha256 OF THE DUMP (.gsa) THAT YbulkucgProg.lean LOADS. Nothing in Lean hashes anything: it is a label: what it is worth is what the hold of that sum in a sandbox is worth. -/
noncomputable def Yba.pinned : Pinned := { name := "ybulkucg", sum := "c4ecfff8471d0123c30a685fb197f59edfa044cc392d4fd1db4dfdb125fc52b7", checked := Yba.checked }
namespace Rows
def none {H : Type} : Left H := { results := [], args := [] }

/-- 'sidf.LawS1020AModel': WHATEVER THE INPUT: true; the input reads as it did. -/
def lawS1020AModelSpec : ChangeSpec := { name := "lawS1020AModel", fn := fun _ => fun
  | [d1, d2, d3, d4, d5, d6] => { results := [.lit (.bool true)], args := [d1, d2, d3, d4, d5, d6] }
  | _ => none }
def lawS1020AModelRow : OpenClaim := { program := "ybulkucg", sum := "c4ecfff8471d0123c30a685fb197f59edfa044cc392d4fd1db4dfdb125fc52b7", func := "example.com/reelmark/reelmark/sidf.LawS1020AModel", spec := "lawS1020AModel", apart := false }
def LawS1020AModelSaid : Prop := lawS1020AModelRow.holds Yba.pinned (OpenSpec.ofChange lawS1020AModelSpec)

/-- ITS FALSE NEIGHBOUR: 'it returns false'. Refute it at one input. -/
def lawS1020AModelWrong : ChangeSpec := { name := "lawS1020AModel", fn := fun _ => fun
  | [d1, d2, d3, d4, d5, d6] => { results := [.lit (.bool false)], args := [d1, d2, d3, d4, d5, d6] }
  | _ => none }
def LawS1020AModelWrongFalsely : Prop := lawS1020AModelRow.holds Yba.pinned (OpenSpec.ofChange lawS1020AModelWrong)

/-- 'sidf.LawS1020AZeros': WHATEVER THE INPUT: true; the input reads as it did. -/
def lawS1020AZerosSpec : ChangeSpec := { name := "lawS1020AZeros", fn := fun _ => fun
  | [d1, d2, d3, d4] => { results := [.lit (.bool true)], args := [d1, d2, d3, d4] }
  | _ => none }
def lawS1020AZerosRow : OpenClaim := { program := "ybulkucg", sum := "c4ecfff8471d0123c30a685fb197f59edfa044cc392d4fd1db4dfdb125fc52b7", func := "example.com/reelmark/reelmark/sidf.LawS1020AZeros", spec := "lawS1020AZeros", apart := false }
def LawS1020AZerosSaid : Prop := lawS1020AZerosRow.holds Yba.pinned (OpenSpec.ofChange lawS1020AZerosSpec)

/-- ITS FALSE NEIGHBOUR: 'it returns false'. Refute it at one input. -/
def lawS1020AZerosWrong : ChangeSpec := { name := "lawS1020AZeros", fn := fun _ => fun
  | [d1, d2, d3, d4] => { results := [.lit (.bool false)], args := [d1, d2, d3, d4] }
  | _ => none }
def LawS1020AZerosWrongFalsely : Prop := lawS1020AZerosRow.holds Yba.pinned (OpenSpec.ofChange lawS1020AZerosWrong)

end Rows
end Go.Proofs.Ybulkucg
