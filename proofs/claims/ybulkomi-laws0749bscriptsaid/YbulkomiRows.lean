/-
  No cell of these rows narrows 'for every input' (looked for: loops, veiled, ifaces, maps, wideKeys, modest, calm, conditions, laid).
  DERIVED. THE GIVEN ROWS OF THIS SEAT. 2 by the template 'for every input the law returns true; each argument reads behind the call as it read before'; 0 by the template 'total and deterministic' (their statements: YbulkomiTotals.lean).
  GIVEN WITH THE SEED: the statements are not yours to turn. If you find one false, say at which input.
  Laid BY PROGRAM, IN A SANDBOX (cutbox-rows.mjs): the forced cells as the released guide's own fill.sh prints them over the translation 1d436c36232c2e4f… (all of the seat's roots in one cut). By AI agents, Wed Nov 11 2026. No macro, syntax, notation, axiom, sorry.
-/
import Derived.Test.YbulkomiChecked
import GoSem.Claim
import GoSem.ClaimJoined
import GoSem.ClaimMapViews
import Derived.JoinedTies
import Derived.KernelRfl
namespace Go.Proofs.Ybulkomi
/- THE CELL 'sum', in the pinned program and in every row, IS THE sha256 OF THE DUMP (.gsa) THAT YbulkomiProg.lean LOADS. Nothing in Lean hashes anything: it is a label: what it is worth is what the hold of that sum in a sandbox is worth. -/
noncomputable def Yba.pinned : Pinned := { name := "ybulkomi", sum := "1d436c36232c2e4f997a1d346eaa830cdc8d0f9ab60c8c5fd572618438dcbd17", checked := Yba.checked }
namespace Rows
def none {H : Type} : Left H := { results := [], args := [] }

/-- 'check.LawS0749AScalars': WHATEVER THE INPUT: true; the input reads as it did. -/
def lawS0749AScalarsSpec : ChangeSpec := { name := "lawS0749AScalars", fn := fun _ => fun
  | [d1, d2] => { results := [.lit (.bool true)], args := [d1, d2] }
  | _ => none }
def lawS0749AScalarsRow : OpenClaim := { program := "ybulkomi", sum := "1d436c36232c2e4f997a1d346eaa830cdc8d0f9ab60c8c5fd572618438dcbd17", func := "example.com/portcullis/portcullis/check.LawS0749AScalars", spec := "lawS0749AScalars", inPlace := ["internal/bytealg.abigen_runtime_cmpstring"], unfollowed := true, recurses := true, plainKeys := false, apart := false }
def LawS0749AScalarsSaid : Prop := lawS0749AScalarsRow.holds Yba.pinned (OpenSpec.ofChange lawS0749AScalarsSpec)

/-- ITS FALSE NEIGHBOUR: 'it returns false'. Refute it at one input. -/
def lawS0749AScalarsWrong : ChangeSpec := { name := "lawS0749AScalars", fn := fun _ => fun
  | [d1, d2] => { results := [.lit (.bool false)], args := [d1, d2] }
  | _ => none }
def LawS0749AScalarsWrongFalsely : Prop := lawS0749AScalarsRow.holds Yba.pinned (OpenSpec.ofChange lawS0749AScalarsWrong)

/-- 'store.LawS0749BScript': WHATEVER THE INPUT: true; the input reads as it did. -/
def lawS0749BScriptSpec : ChangeSpec := { name := "lawS0749BScript", fn := fun _ => fun
  | [d] => { results := [.lit (.bool true)], args := [d] }
  | _ => none }
def lawS0749BScriptRow : OpenClaim := { program := "ybulkomi", sum := "1d436c36232c2e4f997a1d346eaa830cdc8d0f9ab60c8c5fd572618438dcbd17", func := "example.com/portcullis/portcullis/store.LawS0749BScript", spec := "lawS0749BScript", unfollowed := true, recurses := true, plainKeys := false, apart := false }
def LawS0749BScriptSaid : Prop := lawS0749BScriptRow.holds Yba.pinned (OpenSpec.ofChange lawS0749BScriptSpec)

/-- ITS FALSE NEIGHBOUR: 'it returns false'. Refute it at one input. -/
def lawS0749BScriptWrong : ChangeSpec := { name := "lawS0749BScript", fn := fun _ => fun
  | [d] => { results := [.lit (.bool false)], args := [d] }
  | _ => none }
def LawS0749BScriptWrongFalsely : Prop := lawS0749BScriptRow.holds Yba.pinned (OpenSpec.ofChange lawS0749BScriptWrong)

end Rows
end Go.Proofs.Ybulkomi
