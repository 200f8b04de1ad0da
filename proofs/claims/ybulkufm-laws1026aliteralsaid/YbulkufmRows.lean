/-
  No cell of these rows narrows 'for every input' (looked for: loops, veiled, ifaces, maps, wideKeys, modest, calm, conditions, laid).
  DERIVED. THE GIVEN ROWS OF THIS SEAT. 3 by the template 'for every input the law returns true; each argument reads behind the call as it read before'; 0 by the template 'total and deterministic' (their statements: YbulkufmTotals.lean).
  GIVEN WITH THE SEED: the statements are not yours to turn. If you find one false, say at which input.
  Laid BY PROGRAM, IN A SANDBOX (cutbox-rows.mjs): the forced cells as the released guide's own fill.sh prints them over the translation 7ea20b57f3fb6a52… (all of the seat's roots in one cut). By AI agents, Wed Nov 11 2026. No macro, syntax, notation, axiom, sorry.
-/
import Derived.Test.YbulkufmChecked
import GoSem.Claim
import GoSem.ClaimJoined
import GoSem.ClaimMapViews
import Derived.JoinedTies
import Derived.KernelRfl
namespace Go.Proofs.Ybulkufm
/- THE CELL 'sum', in the pinned program and in every row, IS THE sha256 OF THE DUMP (.gsa) THAT YbulkufmProg.lean LOADS. Nothing in Lean hashes anything: it is a label: what it is worth is what the hold of that sum in a sandbox is worth. -/
noncomputable def Yba.pinned : Pinned := { name := "ybulkufm", sum := "7ea20b57f3fb6a527f33f9ae5cb6f69121e186c656e5d576e3962e9c908cb8ee", checked := Yba.checked }
namespace Rows
def none {H : Type} : Left H := { results := [], args := [] }

/-- 'store.LawS1026ALiteral': WHATEVER THE INPUT: true; the input reads as it did. -/
def lawS1026ALiteralSpec : ChangeSpec := { name := "lawS1026ALiteral", fn := fun _ => fun
  | [d1, d2] => { results := [.lit (.bool true)], args := [d1, d2] }
  | _ => none }
def lawS1026ALiteralRow : OpenClaim := { program := "ybulkufm", sum := "7ea20b57f3fb6a527f33f9ae5cb6f69121e186c656e5d576e3962e9c908cb8ee", func := "example.com/driftmend/driftmend/store.LawS1026ALiteral", spec := "lawS1026ALiteral", apart := false }
def LawS1026ALiteralSaid : Prop := lawS1026ALiteralRow.holds Yba.pinned (OpenSpec.ofChange lawS1026ALiteralSpec)

/-- ITS FALSE NEIGHBOUR: 'it returns false'. Refute it at one input. -/
def lawS1026ALiteralWrong : ChangeSpec := { name := "lawS1026ALiteral", fn := fun _ => fun
  | [d1, d2] => { results := [.lit (.bool false)], args := [d1, d2] }
  | _ => none }
def LawS1026ALiteralWrongFalsely : Prop := lawS1026ALiteralRow.holds Yba.pinned (OpenSpec.ofChange lawS1026ALiteralWrong)

/-- 'store.LawS1026ABuilt': WHATEVER THE INPUT: true; the input reads as it did. -/
def lawS1026ABuiltSpec : ChangeSpec := { name := "lawS1026ABuilt", fn := fun _ => fun
  | [d] => { results := [.lit (.bool true)], args := [d] }
  | _ => none }
def lawS1026ABuiltRow : OpenClaim := { program := "ybulkufm", sum := "7ea20b57f3fb6a527f33f9ae5cb6f69121e186c656e5d576e3962e9c908cb8ee", func := "example.com/driftmend/driftmend/store.LawS1026ABuilt", spec := "lawS1026ABuilt", inPlace := ["math/bits.Add64"], unfollowed := true, recurses := true, named := ["encoding/binary.LittleEndian", "encoding/binary.BigEndian"], apart := false }
def LawS1026ABuiltSaid : Prop := lawS1026ABuiltRow.holds Yba.pinned (OpenSpec.ofChange lawS1026ABuiltSpec)

/-- ITS FALSE NEIGHBOUR: 'it returns false'. Refute it at one input. -/
def lawS1026ABuiltWrong : ChangeSpec := { name := "lawS1026ABuilt", fn := fun _ => fun
  | [d] => { results := [.lit (.bool false)], args := [d] }
  | _ => none }
def LawS1026ABuiltWrongFalsely : Prop := lawS1026ABuiltRow.holds Yba.pinned (OpenSpec.ofChange lawS1026ABuiltWrong)

/-- 'store.LawS1026AInsert': WHATEVER THE INPUT: true; the input reads as it did. -/
def lawS1026AInsertSpec : ChangeSpec := { name := "lawS1026AInsert", fn := fun _ => fun
  | [d] => { results := [.lit (.bool true)], args := [d] }
  | _ => none }
def lawS1026AInsertRow : OpenClaim := { program := "ybulkufm", sum := "7ea20b57f3fb6a527f33f9ae5cb6f69121e186c656e5d576e3962e9c908cb8ee", func := "example.com/driftmend/driftmend/store.LawS1026AInsert", spec := "lawS1026AInsert", inPlace := ["math/bits.Add64"], unfollowed := true, recurses := true, named := ["encoding/binary.LittleEndian", "encoding/binary.BigEndian"], apart := false }
def LawS1026AInsertSaid : Prop := lawS1026AInsertRow.holds Yba.pinned (OpenSpec.ofChange lawS1026AInsertSpec)

/-- ITS FALSE NEIGHBOUR: 'it returns false'. Refute it at one input. -/
def lawS1026AInsertWrong : ChangeSpec := { name := "lawS1026AInsert", fn := fun _ => fun
  | [d] => { results := [.lit (.bool false)], args := [d] }
  | _ => none }
def LawS1026AInsertWrongFalsely : Prop := lawS1026AInsertRow.holds Yba.pinned (OpenSpec.ofChange lawS1026AInsertWrong)

end Rows
end Go.Proofs.Ybulkufm
