/-
  No cell of these rows narrows 'for every input' (looked for: loops, veiled, ifaces, maps, wideKeys, modest, calm, conditions, laid).
  DERIVED. THE GIVEN ROWS OF THIS SEAT. 3 by the template 'for every input the law returns true; each argument reads behind the call as it read before'; 0 by the template 'total and deterministic' (their statements: YoeatwTotals.lean).
  GIVEN WITH THE SEED: the statements are not yours to turn. If you find one false, say at which input.
  Laid BY PROGRAM, IN A SANDBOX (cutbox-rows.mjs): the forced cells as the released guide's own fill.sh prints them over the translation e0b3c353981f2926… (all of the seat's roots in one cut). By AI agents, Wed Nov 11 2026. No macro, syntax, notation, axiom, sorry.
-/
import Derived.Test.YoeatwChecked
import GoSem.Claim
import GoSem.ClaimJoined
import GoSem.ClaimMapViews
import Derived.JoinedTies
import Derived.KernelRfl
namespace Go.Proofs.Yoeatw
/- THE CELL 'sum', in the pinned program and in every row, IS THE sha256 OF THE DUMP (.gsa) THAT YoeatwProg.lean LOADS. Nothing in Lean hashes anything: it is a label: what it is worth is what the hold of that sum in a sandbox is worth. -/
noncomputable def Eatg.pinned : Pinned := { name := "yoeatw", sum := "e0b3c353981f2926b63c2c28ce0dc015e72401c8e2e18588d2e157a45735a904", checked := Eatg.checked }
namespace Rows
def none {H : Type} : Left H := { results := [], args := [] }

/-- 'zzlaws_parser_b23.FnStringLitEndIsPosPlusPrintedLength': WHATEVER THE INPUT: true; the input reads as it did. -/
def fnStringLitEndIsPosPlusPrintedLengthSpec : ChangeSpec := { name := "fnStringLitEndIsPosPlusPrintedLength", fn := fun _ => fun
  | [d1, d2, d3] => { results := [.lit (.bool true)], args := [d1, d2, d3] }
  | _ => none }
def fnStringLitEndIsPosPlusPrintedLengthRow : OpenClaim := { program := "yoeatw", sum := "e0b3c353981f2926b63c2c28ce0dc015e72401c8e2e18588d2e157a45735a904", func := "github.com/d5/tengo/v2/zzlaws_parser_b23.FnStringLitEndIsPosPlusPrintedLength", spec := "fnStringLitEndIsPosPlusPrintedLength", apart := false }
def FnStringLitEndIsPosPlusPrintedLengthSaid : Prop := fnStringLitEndIsPosPlusPrintedLengthRow.holds Eatg.pinned (OpenSpec.ofChange fnStringLitEndIsPosPlusPrintedLengthSpec)

/-- ITS FALSE NEIGHBOUR: 'it returns false'. Refute it at one input. -/
def fnStringLitEndIsPosPlusPrintedLengthWrong : ChangeSpec := { name := "fnStringLitEndIsPosPlusPrintedLength", fn := fun _ => fun
  | [d1, d2, d3] => { results := [.lit (.bool false)], args := [d1, d2, d3] }
  | _ => none }
def FnStringLitEndIsPosPlusPrintedLengthWrongFalsely : Prop := fnStringLitEndIsPosPlusPrintedLengthRow.holds Eatg.pinned (OpenSpec.ofChange fnStringLitEndIsPosPlusPrintedLengthWrong)

/-- 'zzlaws_parser_b23.FnStringLitSpanOrdered': WHATEVER THE INPUT: true; the input reads as it did. -/
def fnStringLitSpanOrderedSpec : ChangeSpec := { name := "fnStringLitSpanOrdered", fn := fun _ => fun
  | [d1, d2, d3] => { results := [.lit (.bool true)], args := [d1, d2, d3] }
  | _ => none }
def fnStringLitSpanOrderedRow : OpenClaim := { program := "yoeatw", sum := "e0b3c353981f2926b63c2c28ce0dc015e72401c8e2e18588d2e157a45735a904", func := "github.com/d5/tengo/v2/zzlaws_parser_b23.FnStringLitSpanOrdered", spec := "fnStringLitSpanOrdered", apart := false }
def FnStringLitSpanOrderedSaid : Prop := fnStringLitSpanOrderedRow.holds Eatg.pinned (OpenSpec.ofChange fnStringLitSpanOrderedSpec)

/-- ITS FALSE NEIGHBOUR: 'it returns false'. Refute it at one input. -/
def fnStringLitSpanOrderedWrong : ChangeSpec := { name := "fnStringLitSpanOrdered", fn := fun _ => fun
  | [d1, d2, d3] => { results := [.lit (.bool false)], args := [d1, d2, d3] }
  | _ => none }
def FnStringLitSpanOrderedWrongFalsely : Prop := fnStringLitSpanOrderedRow.holds Eatg.pinned (OpenSpec.ofChange fnStringLitSpanOrderedWrong)

/-- 'zzlaws_parser_b23.FnStringLitPrintsSourceTextOnly': WHATEVER THE INPUT: true; the input reads as it did. -/
def fnStringLitPrintsSourceTextOnlySpec : ChangeSpec := { name := "fnStringLitPrintsSourceTextOnly", fn := fun _ => fun
  | [d1, d2, d3, d4, d5] => { results := [.lit (.bool true)], args := [d1, d2, d3, d4, d5] }
  | _ => none }
def fnStringLitPrintsSourceTextOnlyRow : OpenClaim := { program := "yoeatw", sum := "e0b3c353981f2926b63c2c28ce0dc015e72401c8e2e18588d2e157a45735a904", func := "github.com/d5/tengo/v2/zzlaws_parser_b23.FnStringLitPrintsSourceTextOnly", spec := "fnStringLitPrintsSourceTextOnly", apart := false }
def FnStringLitPrintsSourceTextOnlySaid : Prop := fnStringLitPrintsSourceTextOnlyRow.holds Eatg.pinned (OpenSpec.ofChange fnStringLitPrintsSourceTextOnlySpec)

/-- ITS FALSE NEIGHBOUR: 'it returns false'. Refute it at one input. -/
def fnStringLitPrintsSourceTextOnlyWrong : ChangeSpec := { name := "fnStringLitPrintsSourceTextOnly", fn := fun _ => fun
  | [d1, d2, d3, d4, d5] => { results := [.lit (.bool false)], args := [d1, d2, d3, d4, d5] }
  | _ => none }
def FnStringLitPrintsSourceTextOnlyWrongFalsely : Prop := fnStringLitPrintsSourceTextOnlyRow.holds Eatg.pinned (OpenSpec.ofChange fnStringLitPrintsSourceTextOnlyWrong)

end Rows
end Go.Proofs.Yoeatw
