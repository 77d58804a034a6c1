/-
  No cell of these rows narrows 'for every input' (looked for: loops, veiled, ifaces, maps, wideKeys, modest, calm, conditions, laid).
  DERIVED. THE GIVEN ROWS OF THIS SEAT. 2 by the template 'for every input the law returns true; each argument reads behind the call as it read before'; 0 by the template 'total and deterministic' (their statements: YbulkomwTotals.lean).
  GIVEN WITH THE SEED: the statements are not yours to turn. If you find one false, say at which input.
  Laid BY PROGRAM, IN A SANDBOX (cutbox-rows.mjs): the forced cells as the released guide's own fill.sh prints them over the translation db6b3997430d38f7… (all of the seat's roots in one cut). By AI agents, Wed Nov 11 2026. No macro, syntax, notation, axiom, sorry.
-/
import Derived.Test.YbulkomwChecked
import GoSem.Claim
import GoSem.ClaimJoined
import GoSem.ClaimMapViews
import Derived.JoinedTies
import Derived.KernelRfl
namespace Go.Proofs.Ybulkomw
/- THE CELL 'sum', in the pinned program and in every row, IS THE sha256 OF THE DUMP (.gsa) THAT YbulkomwProg.lean LOADS. Nothing in Lean hashes anything: it is a label: what it is worth is what the hold of that sum in a sandbox is worth. -/
noncomputable def Yba.pinned : Pinned := { name := "ybulkomw", sum := "db6b3997430d38f7020449014118a932fcb78d57a698d69a17a959c685ee06d8", checked := Yba.checked }
namespace Rows
def none {H : Type} : Left H := { results := [], args := [] }

/-- 'record.LawS0750AStandIn': WHATEVER THE INPUT: true; the input reads as it did. -/
def lawS0750AStandInSpec : ChangeSpec := { name := "lawS0750AStandIn", fn := fun _ => fun
  | [d1, d2] => { results := [.lit (.bool true)], args := [d1, d2] }
  | _ => none }
def lawS0750AStandInRow : OpenClaim := { program := "ybulkomw", sum := "db6b3997430d38f7020449014118a932fcb78d57a698d69a17a959c685ee06d8", func := "example.com/logstrand/logstrand/pkg/record.LawS0750AStandIn", spec := "lawS0750AStandIn", unfollowed := true, recurses := true, apart := false }
def LawS0750AStandInSaid : Prop := lawS0750AStandInRow.holds Yba.pinned (OpenSpec.ofChange lawS0750AStandInSpec)

/-- ITS FALSE NEIGHBOUR: 'it returns false'. Refute it at one input. -/
def lawS0750AStandInWrong : ChangeSpec := { name := "lawS0750AStandIn", fn := fun _ => fun
  | [d1, d2] => { results := [.lit (.bool false)], args := [d1, d2] }
  | _ => none }
def LawS0750AStandInWrongFalsely : Prop := lawS0750AStandInRow.holds Yba.pinned (OpenSpec.ofChange lawS0750AStandInWrong)

/-- 'record.LawS0750AReader': WHATEVER THE INPUT: true; the input reads as it did. -/
def lawS0750AReaderSpec : ChangeSpec := { name := "lawS0750AReader", fn := fun _ => fun
  | [d1, d2] => { results := [.lit (.bool true)], args := [d1, d2] }
  | _ => none }
def lawS0750AReaderRow : OpenClaim := { program := "ybulkomw", sum := "db6b3997430d38f7020449014118a932fcb78d57a698d69a17a959c685ee06d8", func := "example.com/logstrand/logstrand/pkg/record.LawS0750AReader", spec := "lawS0750AReader", unfollowed := true, recurses := true, apart := false }
def LawS0750AReaderSaid : Prop := lawS0750AReaderRow.holds Yba.pinned (OpenSpec.ofChange lawS0750AReaderSpec)

/-- ITS FALSE NEIGHBOUR: 'it returns false'. Refute it at one input. -/
def lawS0750AReaderWrong : ChangeSpec := { name := "lawS0750AReader", fn := fun _ => fun
  | [d1, d2] => { results := [.lit (.bool false)], args := [d1, d2] }
  | _ => none }
def LawS0750AReaderWrongFalsely : Prop := lawS0750AReaderRow.holds Yba.pinned (OpenSpec.ofChange lawS0750AReaderWrong)

end Rows
end Go.Proofs.Ybulkomw
