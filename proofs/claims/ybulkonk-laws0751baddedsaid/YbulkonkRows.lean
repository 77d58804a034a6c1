/-
  No cell of these rows narrows 'for every input' (looked for: loops, veiled, ifaces, maps, wideKeys, modest, calm, conditions, laid).
  DERIVED. THE GIVEN ROWS OF THIS SEAT. 4 by the template 'for every input the law returns true; each argument reads behind the call as it read before'; 0 by the template 'total and deterministic' (their statements: YbulkonkTotals.lean).
  GIVEN WITH THE SEED: the statements are not yours to turn. If you find one false, say at which input.
  Laid BY PROGRAM, IN A SANDBOX (cutbox-rows.mjs): the forced cells as the released guide's own fill.sh prints them over the translation c074813d1d168b0c… (all of the seat's roots in one cut). By AI agents, Wed Nov 11 2026. No macro, syntax, notation, axiom, sorry.
-/
import Derived.Test.YbulkonkChecked
import GoSem.Claim
import GoSem.ClaimJoined
import GoSem.ClaimMapViews
import Derived.JoinedTies
import Derived.KernelRfl
namespace Go.Proofs.Ybulkonk
/- THE CELL 'sum', in the pinned program and in every row, IS THE sha256 OF THE DUMP (.gsa) THAT YbulkonkProg.lean LOADS. Nothing in Lean hashes anything: it is a label: what it is worth is what the hold of that sum in a sandbox is worth. -/
noncomputable def Yba.pinned : Pinned := { name := "ybulkonk", sum := "c074813d1d168b0cc4bfedc30f6d34cd1d109ab5c0a0995796e1d5b2384b580b", checked := Yba.checked }
namespace Rows
def none {H : Type} : Left H := { results := [], args := [] }

/-- 'errbag.LawS0751AOrder': WHATEVER THE INPUT: true; the input reads as it did. -/
def lawS0751AOrderSpec : ChangeSpec := { name := "lawS0751AOrder", fn := fun _ => fun
  | [d1, d2] => { results := [.lit (.bool true)], args := [d1, d2] }
  | _ => none }
def lawS0751AOrderRow : OpenClaim := { program := "ybulkonk", sum := "c074813d1d168b0cc4bfedc30f6d34cd1d109ab5c0a0995796e1d5b2384b580b", func := "example.com/halyard/halyard/errbag.LawS0751AOrder", spec := "lawS0751AOrder", inPlace := ["(*internal/sync.Mutex).Lock", "internal/race.Disable", "sync/atomic.CompareAndSwapInt32", "internal/race.Enable", "internal/race.Acquire", "(*internal/sync.Mutex).lockSlow", "internal/sync.runtime_canSpin", "internal/sync.runtime_doSpin", "internal/sync.throw", "internal/sync.runtime_nanotime", "internal/sync.runtime_SemacquireMutex", "sync/atomic.AddInt32", "(*internal/sync.Mutex).Unlock", "internal/race.ReleaseMerge", "(*internal/sync.Mutex).unlockSlow", "internal/sync.fatal", "internal/sync.runtime_Semrelease"], unfollowed := true, recurses := true, apart := false }
def LawS0751AOrderSaid : Prop := lawS0751AOrderRow.holds Yba.pinned (OpenSpec.ofChange lawS0751AOrderSpec)

/-- ITS FALSE NEIGHBOUR: 'it returns false'. Refute it at one input. -/
def lawS0751AOrderWrong : ChangeSpec := { name := "lawS0751AOrder", fn := fun _ => fun
  | [d1, d2] => { results := [.lit (.bool false)], args := [d1, d2] }
  | _ => none }
def LawS0751AOrderWrongFalsely : Prop := lawS0751AOrderRow.holds Yba.pinned (OpenSpec.ofChange lawS0751AOrderWrong)

/-- 'errbag.LawS0751AAddDuring': WHATEVER THE INPUT: true; the input reads as it did. -/
def lawS0751AAddDuringSpec : ChangeSpec := { name := "lawS0751AAddDuring", fn := fun _ => fun
  | [d] => { results := [.lit (.bool true)], args := [d] }
  | _ => none }
def lawS0751AAddDuringRow : OpenClaim := { program := "ybulkonk", sum := "c074813d1d168b0cc4bfedc30f6d34cd1d109ab5c0a0995796e1d5b2384b580b", func := "example.com/halyard/halyard/errbag.LawS0751AAddDuring", spec := "lawS0751AAddDuring", inPlace := ["(*internal/sync.Mutex).Lock", "internal/race.Disable", "sync/atomic.CompareAndSwapInt32", "internal/race.Enable", "internal/race.Acquire", "(*internal/sync.Mutex).lockSlow", "internal/sync.runtime_canSpin", "internal/sync.runtime_doSpin", "internal/sync.throw", "internal/sync.runtime_nanotime", "internal/sync.runtime_SemacquireMutex", "sync/atomic.AddInt32", "(*internal/sync.Mutex).Unlock", "internal/race.ReleaseMerge", "(*internal/sync.Mutex).unlockSlow", "internal/sync.fatal", "internal/sync.runtime_Semrelease"], unfollowed := true, recurses := true, apart := false }
def LawS0751AAddDuringSaid : Prop := lawS0751AAddDuringRow.holds Yba.pinned (OpenSpec.ofChange lawS0751AAddDuringSpec)

/-- ITS FALSE NEIGHBOUR: 'it returns false'. Refute it at one input. -/
def lawS0751AAddDuringWrong : ChangeSpec := { name := "lawS0751AAddDuring", fn := fun _ => fun
  | [d] => { results := [.lit (.bool false)], args := [d] }
  | _ => none }
def LawS0751AAddDuringWrongFalsely : Prop := lawS0751AAddDuringRow.holds Yba.pinned (OpenSpec.ofChange lawS0751AAddDuringWrong)

/-- 'task.LawS0751BOrder': WHATEVER THE INPUT: true; the input reads as it did. -/
def lawS0751BOrderSpec : ChangeSpec := { name := "lawS0751BOrder", fn := fun _ => fun
  | [d] => { results := [.lit (.bool true)], args := [d] }
  | _ => none }
def lawS0751BOrderRow : OpenClaim := { program := "ybulkonk", sum := "c074813d1d168b0cc4bfedc30f6d34cd1d109ab5c0a0995796e1d5b2384b580b", func := "example.com/halyard/halyard/task.LawS0751BOrder", spec := "lawS0751BOrder", inPlace := ["(*internal/sync.Mutex).Lock", "internal/race.Disable", "sync/atomic.CompareAndSwapInt32", "internal/race.Enable", "internal/race.Acquire", "(*internal/sync.Mutex).lockSlow", "internal/sync.runtime_canSpin", "internal/sync.runtime_doSpin", "internal/sync.throw", "internal/sync.runtime_nanotime", "internal/sync.runtime_SemacquireMutex", "sync/atomic.AddInt32", "(*internal/sync.Mutex).Unlock", "internal/race.ReleaseMerge", "(*internal/sync.Mutex).unlockSlow", "internal/sync.fatal", "internal/sync.runtime_Semrelease"], unfollowed := true, recurses := true, apart := false }
def LawS0751BOrderSaid : Prop := lawS0751BOrderRow.holds Yba.pinned (OpenSpec.ofChange lawS0751BOrderSpec)

/-- ITS FALSE NEIGHBOUR: 'it returns false'. Refute it at one input. -/
def lawS0751BOrderWrong : ChangeSpec := { name := "lawS0751BOrder", fn := fun _ => fun
  | [d] => { results := [.lit (.bool false)], args := [d] }
  | _ => none }
def LawS0751BOrderWrongFalsely : Prop := lawS0751BOrderRow.holds Yba.pinned (OpenSpec.ofChange lawS0751BOrderWrong)

/-- 'task.LawS0751BAdded': WHATEVER THE INPUT: true; the input reads as it did. -/
def lawS0751BAddedSpec : ChangeSpec := { name := "lawS0751BAdded", fn := fun _ => fun
  | [d1, d2] => { results := [.lit (.bool true)], args := [d1, d2] }
  | _ => none }
def lawS0751BAddedRow : OpenClaim := { program := "ybulkonk", sum := "c074813d1d168b0cc4bfedc30f6d34cd1d109ab5c0a0995796e1d5b2384b580b", func := "example.com/halyard/halyard/task.LawS0751BAdded", spec := "lawS0751BAdded", inPlace := ["(*internal/sync.Mutex).Lock", "internal/race.Disable", "sync/atomic.CompareAndSwapInt32", "internal/race.Enable", "internal/race.Acquire", "(*internal/sync.Mutex).lockSlow", "internal/sync.runtime_canSpin", "internal/sync.runtime_doSpin", "internal/sync.throw", "internal/sync.runtime_nanotime", "internal/sync.runtime_SemacquireMutex", "sync/atomic.AddInt32", "(*internal/sync.Mutex).Unlock", "internal/race.ReleaseMerge", "(*internal/sync.Mutex).unlockSlow", "internal/sync.fatal", "internal/sync.runtime_Semrelease"], unfollowed := true, recurses := true, apart := false }
def LawS0751BAddedSaid : Prop := lawS0751BAddedRow.holds Yba.pinned (OpenSpec.ofChange lawS0751BAddedSpec)

/-- ITS FALSE NEIGHBOUR: 'it returns false'. Refute it at one input. -/
def lawS0751BAddedWrong : ChangeSpec := { name := "lawS0751BAdded", fn := fun _ => fun
  | [d1, d2] => { results := [.lit (.bool false)], args := [d1, d2] }
  | _ => none }
def LawS0751BAddedWrongFalsely : Prop := lawS0751BAddedRow.holds Yba.pinned (OpenSpec.ofChange lawS0751BAddedWrong)

end Rows
end Go.Proofs.Ybulkonk
