/-
  No cell of these rows narrows 'for every input' (looked for: loops, veiled, ifaces, maps, wideKeys, modest, calm, conditions, laid).
  DERIVED. THE GIVEN ROWS OF THIS SEAT. 2 by the template 'for every input the law returns true; each argument reads behind the call as it read before'; 0 by the template 'total and deterministic' (their statements: YbulkucuTotals.lean).
  GIVEN WITH THE SEED: the statements are not yours to turn. If you find one false, say at which input.
  Laid BY PROGRAM, IN A SANDBOX (cutbox-rows.mjs): the forced cells as the released guide's own fill.sh prints them over the translation 428cb9fbc67e9c25… (all of the seat's roots in one cut). By AI agents, Wed Nov 11 2026. No macro, syntax, notation, axiom, sorry.
-/
import Derived.Test.YbulkucuChecked
import GoSem.Claim
import GoSem.ClaimJoined
import GoSem.ClaimMapViews
import Derived.JoinedTies
import Derived.KernelRfl
namespace Go.Proofs.Ybulkucu
/- THE CELL 'sum', in the pinned program and in every row, IS THE sha256 OF THE DUMP (.gsa) THAT YbulkucuProg.lean LOADS. Nothing in Lean hashes anything: it is a label: what it is worth is what the hold of that sum in a sandbox is worth. -/
noncomputable def Yba.pinned : Pinned := { name := "ybulkucu", sum := "428cb9fbc67e9c25f7f8efcbc5da2f4eb80ac19e6a49d64eed69beaa5b6da6aa", checked := Yba.checked }
namespace Rows
def none {H : Type} : Left H := { results := [], args := [] }

/-- 'sonet.LawS1021CXorAll': WHATEVER THE INPUT: true; the input reads as it did. -/
def lawS1021CXorAllSpec : ChangeSpec := { name := "lawS1021CXorAll", fn := fun _ => fun
  | [d] => { results := [.lit (.bool true)], args := [d] }
  | _ => none }
def lawS1021CXorAllRow : OpenClaim := { program := "ybulkucu", sum := "428cb9fbc67e9c25f7f8efcbc5da2f4eb80ac19e6a49d64eed69beaa5b6da6aa", func := "example.com/spanline/spanline/internal/sonet.LawS1021CXorAll", spec := "lawS1021CXorAll", named := ["encoding/binary.LittleEndian"], apart := false }
def LawS1021CXorAllSaid : Prop := lawS1021CXorAllRow.holds Yba.pinned (OpenSpec.ofChange lawS1021CXorAllSpec)

/-- ITS FALSE NEIGHBOUR: 'it returns false'. Refute it at one input. -/
def lawS1021CXorAllWrong : ChangeSpec := { name := "lawS1021CXorAll", fn := fun _ => fun
  | [d] => { results := [.lit (.bool false)], args := [d] }
  | _ => none }
def LawS1021CXorAllWrongFalsely : Prop := lawS1021CXorAllRow.holds Yba.pinned (OpenSpec.ofChange lawS1021CXorAllWrong)

/-- 'sonet.LawS1021CEvenParity': WHATEVER THE INPUT: true; the input reads as it did. -/
def lawS1021CEvenParitySpec : ChangeSpec := { name := "lawS1021CEvenParity", fn := fun _ => fun
  | [d] => { results := [.lit (.bool true)], args := [d] }
  | _ => none }
def lawS1021CEvenParityRow : OpenClaim := { program := "ybulkucu", sum := "428cb9fbc67e9c25f7f8efcbc5da2f4eb80ac19e6a49d64eed69beaa5b6da6aa", func := "example.com/spanline/spanline/internal/sonet.LawS1021CEvenParity", spec := "lawS1021CEvenParity", named := ["encoding/binary.LittleEndian"], apart := false }
def LawS1021CEvenParitySaid : Prop := lawS1021CEvenParityRow.holds Yba.pinned (OpenSpec.ofChange lawS1021CEvenParitySpec)

/-- ITS FALSE NEIGHBOUR: 'it returns false'. Refute it at one input. -/
def lawS1021CEvenParityWrong : ChangeSpec := { name := "lawS1021CEvenParity", fn := fun _ => fun
  | [d] => { results := [.lit (.bool false)], args := [d] }
  | _ => none }
def LawS1021CEvenParityWrongFalsely : Prop := lawS1021CEvenParityRow.holds Yba.pinned (OpenSpec.ofChange lawS1021CEvenParityWrong)

end Rows
end Go.Proofs.Ybulkucu
