/-
  No cell of these rows narrows 'for every input' (looked for: loops, veiled, ifaces, maps, wideKeys, modest, calm, conditions, laid).
  DERIVED. THE GIVEN ROWS OF THIS SEAT. 2 by the template 'for every input the law returns true; each argument reads behind the call as it read before'; 0 by the template 'total and deterministic' (their statements: YbulkccpcTotals.lean).
  GIVEN WITH THE SEED: the statements are not yours to turn. If you find one false, say at which input.
  Laid BY PROGRAM, IN A SANDBOX (cutbox-rows.mjs): the forced cells as the released guide's own fill.sh prints them over the translation ae8e21cb900bdd47… (all of the seat's roots in one cut). By AI agents, Wed Nov 11 2026. No macro, syntax, notation, axiom, sorry.
-/
import Derived.Test.YbulkccpcChecked
import GoSem.Claim
import GoSem.ClaimJoined
import GoSem.ClaimMapViews
import Derived.JoinedTies
import Derived.KernelRfl
namespace Go.Proofs.Ybulkccpc
/- THE CELL 'sum', in the pinned program and in every row, IS THE sha256 OF THE DUMP (.gsa) THAT YbulkccpcProg.lean LOADS. Nothing in Lean hashes anything: it is a label: what it is worth is what the hold of that sum in a sandbox is worth. -/
noncomputable def Yba.pinned : Pinned := { name := "ybulkccpc", sum := "ae8e21cb900bdd4716b06d554241bfcd74e5ce7e5a82080f1617b62e50b0e533", checked := Yba.checked }
namespace Rows
def none {H : Type} : Left H := { results := [], args := [] }

/-- 'fairlatch.LawS3941AOutcome': WHATEVER THE INPUT: true; the input reads as it did. -/
def lawS3941AOutcomeSpec : ChangeSpec := { name := "lawS3941AOutcome", fn := fun _ => fun
  | [d1, d2, d3, d4, d5] => { results := [.lit (.bool true)], args := [d1, d2, d3, d4, d5] }
  | _ => none }
def lawS3941AOutcomeRow : OpenClaim := { program := "ybulkccpc", sum := "ae8e21cb900bdd4716b06d554241bfcd74e5ce7e5a82080f1617b62e50b0e533", func := "example.com/fairlatch.LawS3941AOutcome", spec := "lawS3941AOutcome", inPlace := ["sync/atomic.StoreUint64", "sync/atomic.StoreInt64", "sync/atomic.CompareAndSwapUint64", "sync/atomic.LoadPointer", "sync/atomic.CompareAndSwapPointer", "sync/atomic.AddUint64", "sync/atomic.LoadUint64", "sync/atomic.LoadInt64"], apart := false }
def LawS3941AOutcomeSaid : Prop := lawS3941AOutcomeRow.holds Yba.pinned (OpenSpec.ofChange lawS3941AOutcomeSpec)

/-- ITS FALSE NEIGHBOUR: 'it returns false'. Refute it at one input. -/
def lawS3941AOutcomeWrong : ChangeSpec := { name := "lawS3941AOutcome", fn := fun _ => fun
  | [d1, d2, d3, d4, d5] => { results := [.lit (.bool false)], args := [d1, d2, d3, d4, d5] }
  | _ => none }
def LawS3941AOutcomeWrongFalsely : Prop := lawS3941AOutcomeRow.holds Yba.pinned (OpenSpec.ofChange lawS3941AOutcomeWrong)

/-- 'fairlatch.LawS3941AScript': WHATEVER THE INPUT: true; the input reads as it did. -/
def lawS3941AScriptSpec : ChangeSpec := { name := "lawS3941AScript", fn := fun _ => fun
  | [d1, d2] => { results := [.lit (.bool true)], args := [d1, d2] }
  | _ => none }
def lawS3941AScriptRow : OpenClaim := { program := "ybulkccpc", sum := "ae8e21cb900bdd4716b06d554241bfcd74e5ce7e5a82080f1617b62e50b0e533", func := "example.com/fairlatch.LawS3941AScript", spec := "lawS3941AScript", inPlace := ["sync/atomic.StoreUint64", "sync/atomic.StoreInt64", "sync/atomic.CompareAndSwapUint64", "sync/atomic.LoadPointer", "sync/atomic.CompareAndSwapPointer", "sync/atomic.AddUint64", "sync/atomic.LoadUint64", "sync/atomic.LoadInt64"], apart := false }
def LawS3941AScriptSaid : Prop := lawS3941AScriptRow.holds Yba.pinned (OpenSpec.ofChange lawS3941AScriptSpec)

/-- ITS FALSE NEIGHBOUR: 'it returns false'. Refute it at one input. -/
def lawS3941AScriptWrong : ChangeSpec := { name := "lawS3941AScript", fn := fun _ => fun
  | [d1, d2] => { results := [.lit (.bool false)], args := [d1, d2] }
  | _ => none }
def LawS3941AScriptWrongFalsely : Prop := lawS3941AScriptRow.holds Yba.pinned (OpenSpec.ofChange lawS3941AScriptWrong)

end Rows
end Go.Proofs.Ybulkccpc
