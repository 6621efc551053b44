/-
  No cell of these rows narrows 'for every input' (looked for: loops, veiled, ifaces, maps, wideKeys, modest, calm, conditions, laid).
  DERIVED. THE GIVEN ROWS OF THIS SEAT. 2 by the template 'for every input the law returns true; each argument reads behind the call as it read before'; 0 by the template 'total and deterministic' (their statements: YbulkccooTotals.lean).
  GIVEN WITH THE SEED: the statements are not yours to turn. If you find one false, say at which input.
  Laid BY PROGRAM, IN A SANDBOX (cutbox-rows.mjs): the forced cells as the released guide's own fill.sh prints them over the translation 4d880fac0c023280… (all of the seat's roots in one cut). By AI agents, Wed Nov 11 2026. No macro, syntax, notation, axiom, sorry.
-/
import Derived.Test.YbulkccooChecked
import GoSem.Claim
import GoSem.ClaimJoined
import GoSem.ClaimMapViews
import Derived.JoinedTies
import Derived.KernelRfl
namespace Go.Proofs.Ybulkccoo
/- THE CELL 'sum', in the pinned program and in every row, IS THE sha256 OF THE DUMP (.gsa) THAT YbulkccooProg.lean LOADS. Nothing in Lean hashes anything: it is a label: what it is worth is what the hold of that sum in a sandbox is worth. -/
noncomputable def Yba.pinned : Pinned := { name := "ybulkccoo", sum := "4d880fac0c0232809c15417eea42ed9ea8dae61d49759d984b9118d1d2a30cf6", checked := Yba.checked }
namespace Rows
def none {H : Type} : Left H := { results := [], args := [] }

/-- 'aeacus.LawS3940AQuant': WHATEVER THE INPUT: true; the input reads as it did. -/
def lawS3940AQuantSpec : ChangeSpec := { name := "lawS3940AQuant", fn := fun _ => fun
  | [d1, d2, d3, d4, d5, d6, d7, d8] => { results := [.lit (.bool true)], args := [d1, d2, d3, d4, d5, d6, d7, d8] }
  | _ => none }
def lawS3940AQuantRow : OpenClaim := { program := "ybulkccoo", sum := "4d880fac0c0232809c15417eea42ed9ea8dae61d49759d984b9118d1d2a30cf6", func := "example.com/aeacus/aeacus.LawS3940AQuant", spec := "lawS3940AQuant", unfollowed := true, recurses := true, apart := false }
def LawS3940AQuantSaid : Prop := lawS3940AQuantRow.holds Yba.pinned (OpenSpec.ofChange lawS3940AQuantSpec)

/-- ITS FALSE NEIGHBOUR: 'it returns false'. Refute it at one input. -/
def lawS3940AQuantWrong : ChangeSpec := { name := "lawS3940AQuant", fn := fun _ => fun
  | [d1, d2, d3, d4, d5, d6, d7, d8] => { results := [.lit (.bool false)], args := [d1, d2, d3, d4, d5, d6, d7, d8] }
  | _ => none }
def LawS3940AQuantWrongFalsely : Prop := lawS3940AQuantRow.holds Yba.pinned (OpenSpec.ofChange lawS3940AQuantWrong)

/-- 'aeacus.LawS3940CArcs': WHATEVER THE INPUT: true; the input reads as it did. -/
def lawS3940CArcsSpec : ChangeSpec := { name := "lawS3940CArcs", fn := fun _ => fun
  | [d1, d2, d3, d4, d5] => { results := [.lit (.bool true)], args := [d1, d2, d3, d4, d5] }
  | _ => none }
def lawS3940CArcsRow : OpenClaim := { program := "ybulkccoo", sum := "4d880fac0c0232809c15417eea42ed9ea8dae61d49759d984b9118d1d2a30cf6", func := "example.com/aeacus/aeacus.LawS3940CArcs", spec := "lawS3940CArcs", apart := false }
def LawS3940CArcsSaid : Prop := lawS3940CArcsRow.holds Yba.pinned (OpenSpec.ofChange lawS3940CArcsSpec)

/-- ITS FALSE NEIGHBOUR: 'it returns false'. Refute it at one input. -/
def lawS3940CArcsWrong : ChangeSpec := { name := "lawS3940CArcs", fn := fun _ => fun
  | [d1, d2, d3, d4, d5] => { results := [.lit (.bool false)], args := [d1, d2, d3, d4, d5] }
  | _ => none }
def LawS3940CArcsWrongFalsely : Prop := lawS3940CArcsRow.holds Yba.pinned (OpenSpec.ofChange lawS3940CArcsWrong)

end Rows
end Go.Proofs.Ybulkccoo
