/-
  NARROWER THAN 'FOR EVERY INPUT', by the rows' own cells (each row's printed sentence says how): LawS3949AModel: ifaces, laid · LawS3949ARoundTrip: ifaces, laid · LawS3949BDecode: ifaces, laid · LawS3949BRoundTrip: ifaces, laid.
  DERIVED. THE GIVEN ROWS OF THIS SEAT. 4 by the template 'for every input the law returns true; each argument reads behind the call as it read before'; 0 by the template 'total and deterministic' (their statements: YbulkcctkFmtTotals.lean).
  GIVEN WITH THE SEED: the statements are not yours to turn. If you find one false, say at which input.
  Laid BY PROGRAM, IN A SANDBOX (cutbox-rows.mjs): the forced cells as the released guide's own fill.sh prints them over the translation dde4d3ab42061bbc… (all of the seat's roots in one cut). By AI agents, Wed Nov 11 2026. No macro, syntax, notation, axiom, sorry.
-/
import Derived.Test.YbulkcctkFmtChecked
import GoSem.Claim
import GoSem.ClaimJoined
import GoSem.ClaimMapViews
import Derived.JoinedTies
import Derived.KernelRfl
namespace Go.Proofs.YbulkcctkFmt
/- THE CELL 'sum', in the pinned program and in every row, IS THE sha256 OF THE DUMP (.gsa) THAT YbulkcctkFmtProg.lean LOADS. Nothing in Lean hashes anything: it is a label: what it is worth is what the hold of that sum in a sandbox is worth. -/
noncomputable def Ybaf.pinned : Pinned := { name := "ybulkcctkfmt", sum := "dde4d3ab42061bbc6a7363f9bb7b758df4016a1930e2caf02c435e90a4d8b8ef", checked := Ybaf.checked }
namespace Rows
def none {H : Type} : Left H := { results := [], args := [] }

/- WHAT THE LISTED PACKAGE-LEVEL VARIABLES READ AS WHEN THE CALL BEGINS. Each datum BY PROGRAM (the guide's laid-datum.mjs) off the statement by which the dump's own 'gosem.cut.vars' lays the variable. In a bare row this is a premise. The card (YbulkcctkFmtCards.lean) ties it to the program's text. -/
def laid_example_com_horologe_horologe_delivery_ErrMode {H : Type} : DataW H := .iface "*errors.errorString" (.ptr (.agg [.lit (.string [117, 110, 107, 110, 111, 119, 110, 32, 100, 101, 108, 105, 118, 101, 114, 121, 32, 109, 111, 100, 101])]))
def laid_example_com_horologe_horologe_delivery_modeNames {H : Type} : DataW H := .agg [.lit (.string [99, 97, 117, 115, 97, 108]), .lit (.string [102, 105, 102, 111]), .lit (.string [97, 114, 114, 105, 118, 97, 108]), .lit (.string [116, 111, 116, 97, 108])]
def laid_example_com_horologe_horologe_internal_stack_ErrWire {H : Type} : DataW H := .iface "*errors.errorString" (.ptr (.agg [.lit (.string [110, 111, 116, 32, 97, 32, 109, 101, 115, 115, 97, 103, 101, 32, 111, 102, 32, 116, 104, 101, 32, 103, 114, 111, 117, 112])]))

/-- 'delivery.LawS3949AModel': WHATEVER THE INPUT: true; the input reads as it did. -/
def lawS3949AModelSpec : ChangeSpec := { name := "lawS3949AModel", vars := ["example.com/horologe/horologe/delivery.ErrMode", "example.com/horologe/horologe/delivery.modeNames"], fn := fun _ => fun
  | [d1, d2, d3, g1, g2] => { results := [.lit (.bool true)], args := [d1, d2, d3], vars := [g1, g2] }
  | _ => none }
def lawS3949AModelRow : OpenClaim := { program := "ybulkcctkfmt", sum := "dde4d3ab42061bbc6a7363f9bb7b758df4016a1930e2caf02c435e90a4d8b8ef", func := "example.com/horologe/horologe/delivery.LawS3949AModel", spec := "lawS3949AModel", stops := ["fmt.errorf"], inPlace := ["fmt.errorf", "internal/reflectlite.TypeOf"], unfollowed := true, recurses := true, named := ["example.com/horologe/horologe/delivery.ErrMode", "example.com/horologe/horologe/delivery.modeNames"], ifaces := true, apart := false, laid := [("example.com/horologe/horologe/delivery.ErrMode", laid_example_com_horologe_horologe_delivery_ErrMode), ("example.com/horologe/horologe/delivery.modeNames", laid_example_com_horologe_horologe_delivery_modeNames)] }
/-- NO THEOREM (fmt's text is open here; it may be false): for the released tool's asking of the row's closed facts alone. THE STATEMENT IS 'LawS3949AModelToldSaid' (YbulkcctkFmtCards.lean). -/
def LawS3949AModelFormAsk : Prop := lawS3949AModelRow.holds Ybaf.pinned (OpenSpec.ofChange lawS3949AModelSpec)

/-- ITS FALSE NEIGHBOUR: 'it returns false'. Refute it at one input. -/
def lawS3949AModelWrong : ChangeSpec := { name := "lawS3949AModel", vars := ["example.com/horologe/horologe/delivery.ErrMode", "example.com/horologe/horologe/delivery.modeNames"], fn := fun _ => fun
  | [d1, d2, d3, g1, g2] => { results := [.lit (.bool false)], args := [d1, d2, d3], vars := [g1, g2] }
  | _ => none }
def LawS3949AModelWrongFormAsk : Prop := lawS3949AModelRow.holds Ybaf.pinned (OpenSpec.ofChange lawS3949AModelWrong)

/-- 'delivery.LawS3949ARoundTrip': WHATEVER THE INPUT: true; the input reads as it did. -/
def lawS3949ARoundTripSpec : ChangeSpec := { name := "lawS3949ARoundTrip", vars := ["example.com/horologe/horologe/delivery.ErrMode", "example.com/horologe/horologe/delivery.modeNames"], fn := fun _ => fun
  | [d1, d2, g1, g2] => { results := [.lit (.bool true)], args := [d1, d2], vars := [g1, g2] }
  | _ => none }
def lawS3949ARoundTripRow : OpenClaim := { program := "ybulkcctkfmt", sum := "dde4d3ab42061bbc6a7363f9bb7b758df4016a1930e2caf02c435e90a4d8b8ef", func := "example.com/horologe/horologe/delivery.LawS3949ARoundTrip", spec := "lawS3949ARoundTrip", stops := ["fmt.errorf"], inPlace := ["fmt.errorf"], named := ["example.com/horologe/horologe/delivery.ErrMode", "example.com/horologe/horologe/delivery.modeNames"], ifaces := true, apart := false, laid := [("example.com/horologe/horologe/delivery.ErrMode", laid_example_com_horologe_horologe_delivery_ErrMode), ("example.com/horologe/horologe/delivery.modeNames", laid_example_com_horologe_horologe_delivery_modeNames)] }
/-- NO THEOREM (fmt's text is open here; it may be false): for the released tool's asking of the row's closed facts alone. THE STATEMENT IS 'LawS3949ARoundTripToldSaid' (YbulkcctkFmtCards.lean). -/
def LawS3949ARoundTripFormAsk : Prop := lawS3949ARoundTripRow.holds Ybaf.pinned (OpenSpec.ofChange lawS3949ARoundTripSpec)

/-- ITS FALSE NEIGHBOUR: 'it returns false'. Refute it at one input. -/
def lawS3949ARoundTripWrong : ChangeSpec := { name := "lawS3949ARoundTrip", vars := ["example.com/horologe/horologe/delivery.ErrMode", "example.com/horologe/horologe/delivery.modeNames"], fn := fun _ => fun
  | [d1, d2, g1, g2] => { results := [.lit (.bool false)], args := [d1, d2], vars := [g1, g2] }
  | _ => none }
def LawS3949ARoundTripWrongFormAsk : Prop := lawS3949ARoundTripRow.holds Ybaf.pinned (OpenSpec.ofChange lawS3949ARoundTripWrong)

/-- 'stack.LawS3949BDecode': WHATEVER THE INPUT: true; the input reads as it did. -/
def lawS3949BDecodeSpec : ChangeSpec := { name := "lawS3949BDecode", vars := ["example.com/horologe/horologe/internal/stack.ErrWire"], fn := fun _ => fun
  | [d1, d2, g1] => { results := [.lit (.bool true)], args := [d1, d2], vars := [g1] }
  | _ => none }
def lawS3949BDecodeRow : OpenClaim := { program := "ybulkcctkfmt", sum := "dde4d3ab42061bbc6a7363f9bb7b758df4016a1930e2caf02c435e90a4d8b8ef", func := "example.com/horologe/horologe/internal/stack.LawS3949BDecode", spec := "lawS3949BDecode", stops := ["fmt.errorf"], inPlace := ["fmt.errorf", "internal/reflectlite.TypeOf"], unfollowed := true, recurses := true, named := ["example.com/horologe/horologe/internal/stack.ErrWire"], ifaces := true, apart := false, laid := [("example.com/horologe/horologe/internal/stack.ErrWire", laid_example_com_horologe_horologe_internal_stack_ErrWire)] }
/-- NO THEOREM (fmt's text is open here; it may be false): for the released tool's asking of the row's closed facts alone. THE STATEMENT IS 'LawS3949BDecodeToldSaid' (YbulkcctkFmtCards.lean). -/
def LawS3949BDecodeFormAsk : Prop := lawS3949BDecodeRow.holds Ybaf.pinned (OpenSpec.ofChange lawS3949BDecodeSpec)

/-- ITS FALSE NEIGHBOUR: 'it returns false'. Refute it at one input. -/
def lawS3949BDecodeWrong : ChangeSpec := { name := "lawS3949BDecode", vars := ["example.com/horologe/horologe/internal/stack.ErrWire"], fn := fun _ => fun
  | [d1, d2, g1] => { results := [.lit (.bool false)], args := [d1, d2], vars := [g1] }
  | _ => none }
def LawS3949BDecodeWrongFormAsk : Prop := lawS3949BDecodeRow.holds Ybaf.pinned (OpenSpec.ofChange lawS3949BDecodeWrong)

/-- 'stack.LawS3949BRoundTrip': WHATEVER THE INPUT: true; the input reads as it did. -/
def lawS3949BRoundTripSpec : ChangeSpec := { name := "lawS3949BRoundTrip", vars := ["example.com/horologe/horologe/internal/stack.ErrWire"], fn := fun _ => fun
  | [d1, d2, g1] => { results := [.lit (.bool true)], args := [d1, d2], vars := [g1] }
  | _ => none }
def lawS3949BRoundTripRow : OpenClaim := { program := "ybulkcctkfmt", sum := "dde4d3ab42061bbc6a7363f9bb7b758df4016a1930e2caf02c435e90a4d8b8ef", func := "example.com/horologe/horologe/internal/stack.LawS3949BRoundTrip", spec := "lawS3949BRoundTrip", stops := ["fmt.errorf"], inPlace := ["fmt.errorf"], named := ["example.com/horologe/horologe/internal/stack.ErrWire"], ifaces := true, apart := false, laid := [("example.com/horologe/horologe/internal/stack.ErrWire", laid_example_com_horologe_horologe_internal_stack_ErrWire)] }
/-- NO THEOREM (fmt's text is open here; it may be false): for the released tool's asking of the row's closed facts alone. THE STATEMENT IS 'LawS3949BRoundTripToldSaid' (YbulkcctkFmtCards.lean). -/
def LawS3949BRoundTripFormAsk : Prop := lawS3949BRoundTripRow.holds Ybaf.pinned (OpenSpec.ofChange lawS3949BRoundTripSpec)

/-- ITS FALSE NEIGHBOUR: 'it returns false'. Refute it at one input. -/
def lawS3949BRoundTripWrong : ChangeSpec := { name := "lawS3949BRoundTrip", vars := ["example.com/horologe/horologe/internal/stack.ErrWire"], fn := fun _ => fun
  | [d1, d2, g1] => { results := [.lit (.bool false)], args := [d1, d2], vars := [g1] }
  | _ => none }
def LawS3949BRoundTripWrongFormAsk : Prop := lawS3949BRoundTripRow.holds Ybaf.pinned (OpenSpec.ofChange lawS3949BRoundTripWrong)

end Rows
end Go.Proofs.YbulkcctkFmt
