/-
  No cell of these rows narrows 'for every input' (looked for: loops, veiled, ifaces, maps, wideKeys, modest, calm, conditions, laid).
  DERIVED. THE GIVEN ROWS OF THIS SEAT. 6 by the template 'for every input the law returns true; each argument reads behind the call as it read before'; 0 by the template 'total and deterministic' (their statements: YbulkaageTotals.lean).
  GIVEN WITH THE SEED: the statements are not yours to turn. If you find one false, say at which input.
  Laid BY PROGRAM, IN A SANDBOX (cutbox-rows.mjs): the forced cells as the released guide's own fill.sh prints them over the translation d237994c5627e878… (all of the seat's roots in one cut). By AI agents, Wed Nov 11 2026. No macro, syntax, notation, axiom, sorry.
-/
import Derived.Test.YbulkaageChecked
import GoSem.Claim
import GoSem.ClaimJoined
import GoSem.ClaimMapViews
import Derived.JoinedTies
import Derived.KernelRfl
namespace Go.Proofs.Ybulkaage
/- THE CELL 'sum', in the pinned program and in every row, IS THE sha256 OF THE DUMP (.gsa) THAT YbulkaageProg.lean LOADS. Nothing in Lean hashes anything: it is a label: what it is worth is what the hold of that sum in a sandbox is worth. -/
noncomputable def Yba.pinned : Pinned := { name := "ybulkaage", sum := "d237994c5627e878d70da737b3cb4b10095b7a463752a265dec630ee2733f942", checked := Yba.checked }
namespace Rows
def none {H : Type} : Left H := { results := [], args := [] }

/-- 'solver.LawS1317AModel': WHATEVER THE INPUT: true; the input reads as it did. -/
def lawS1317AModelSpec : ChangeSpec := { name := "lawS1317AModel", fn := fun _ => fun
  | [d1, d2] => { results := [.lit (.bool true)], args := [d1, d2] }
  | _ => none }
def lawS1317AModelRow : OpenClaim := { program := "ybulkaage", sum := "d237994c5627e878d70da737b3cb4b10095b7a463752a265dec630ee2733f942", func := "example.com/orrery/orrery/pkg/solver.LawS1317AModel", spec := "lawS1317AModel", apart := false }
def LawS1317AModelSaid : Prop := lawS1317AModelRow.holds Yba.pinned (OpenSpec.ofChange lawS1317AModelSpec)

/-- ITS FALSE NEIGHBOUR: 'it returns false'. Refute it at one input. -/
def lawS1317AModelWrong : ChangeSpec := { name := "lawS1317AModel", fn := fun _ => fun
  | [d1, d2] => { results := [.lit (.bool false)], args := [d1, d2] }
  | _ => none }
def LawS1317AModelWrongFalsely : Prop := lawS1317AModelRow.holds Yba.pinned (OpenSpec.ofChange lawS1317AModelWrong)

/-- 'solver.LawS1317ATwice': WHATEVER THE INPUT: true; the input reads as it did. -/
def lawS1317ATwiceSpec : ChangeSpec := { name := "lawS1317ATwice", fn := fun _ => fun
  | [d1, d2] => { results := [.lit (.bool true)], args := [d1, d2] }
  | _ => none }
def lawS1317ATwiceRow : OpenClaim := { program := "ybulkaage", sum := "d237994c5627e878d70da737b3cb4b10095b7a463752a265dec630ee2733f942", func := "example.com/orrery/orrery/pkg/solver.LawS1317ATwice", spec := "lawS1317ATwice", apart := false }
def LawS1317ATwiceSaid : Prop := lawS1317ATwiceRow.holds Yba.pinned (OpenSpec.ofChange lawS1317ATwiceSpec)

/-- ITS FALSE NEIGHBOUR: 'it returns false'. Refute it at one input. -/
def lawS1317ATwiceWrong : ChangeSpec := { name := "lawS1317ATwice", fn := fun _ => fun
  | [d1, d2] => { results := [.lit (.bool false)], args := [d1, d2] }
  | _ => none }
def LawS1317ATwiceWrongFalsely : Prop := lawS1317ATwiceRow.holds Yba.pinned (OpenSpec.ofChange lawS1317ATwiceWrong)

/-- 'solver.LawS1317BExact': WHATEVER THE INPUT: true; the input reads as it did. -/
def lawS1317BExactSpec : ChangeSpec := { name := "lawS1317BExact", fn := fun _ => fun
  | [d1, d2, d3] => { results := [.lit (.bool true)], args := [d1, d2, d3] }
  | _ => none }
def lawS1317BExactRow : OpenClaim := { program := "ybulkaage", sum := "d237994c5627e878d70da737b3cb4b10095b7a463752a265dec630ee2733f942", func := "example.com/orrery/orrery/pkg/solver.LawS1317BExact", spec := "lawS1317BExact", apart := false }
def LawS1317BExactSaid : Prop := lawS1317BExactRow.holds Yba.pinned (OpenSpec.ofChange lawS1317BExactSpec)

/-- ITS FALSE NEIGHBOUR: 'it returns false'. Refute it at one input. -/
def lawS1317BExactWrong : ChangeSpec := { name := "lawS1317BExact", fn := fun _ => fun
  | [d1, d2, d3] => { results := [.lit (.bool false)], args := [d1, d2, d3] }
  | _ => none }
def LawS1317BExactWrongFalsely : Prop := lawS1317BExactRow.holds Yba.pinned (OpenSpec.ofChange lawS1317BExactWrong)

/-- 'solver.LawS1317BFits': WHATEVER THE INPUT: true; the input reads as it did. -/
def lawS1317BFitsSpec : ChangeSpec := { name := "lawS1317BFits", fn := fun _ => fun
  | [d1, d2, d3, d4] => { results := [.lit (.bool true)], args := [d1, d2, d3, d4] }
  | _ => none }
def lawS1317BFitsRow : OpenClaim := { program := "ybulkaage", sum := "d237994c5627e878d70da737b3cb4b10095b7a463752a265dec630ee2733f942", func := "example.com/orrery/orrery/pkg/solver.LawS1317BFits", spec := "lawS1317BFits", apart := false }
def LawS1317BFitsSaid : Prop := lawS1317BFitsRow.holds Yba.pinned (OpenSpec.ofChange lawS1317BFitsSpec)

/-- ITS FALSE NEIGHBOUR: 'it returns false'. Refute it at one input. -/
def lawS1317BFitsWrong : ChangeSpec := { name := "lawS1317BFits", fn := fun _ => fun
  | [d1, d2, d3, d4] => { results := [.lit (.bool false)], args := [d1, d2, d3, d4] }
  | _ => none }
def LawS1317BFitsWrongFalsely : Prop := lawS1317BFitsRow.holds Yba.pinned (OpenSpec.ofChange lawS1317BFitsWrong)

/-- 'solver.LawS1317CExact': WHATEVER THE INPUT: true; the input reads as it did. -/
def lawS1317CExactSpec : ChangeSpec := { name := "lawS1317CExact", fn := fun _ => fun
  | [d1, d2, d3] => { results := [.lit (.bool true)], args := [d1, d2, d3] }
  | _ => none }
def lawS1317CExactRow : OpenClaim := { program := "ybulkaage", sum := "d237994c5627e878d70da737b3cb4b10095b7a463752a265dec630ee2733f942", func := "example.com/orrery/orrery/pkg/solver.LawS1317CExact", spec := "lawS1317CExact", apart := false }
def LawS1317CExactSaid : Prop := lawS1317CExactRow.holds Yba.pinned (OpenSpec.ofChange lawS1317CExactSpec)

/-- ITS FALSE NEIGHBOUR: 'it returns false'. Refute it at one input. -/
def lawS1317CExactWrong : ChangeSpec := { name := "lawS1317CExact", fn := fun _ => fun
  | [d1, d2, d3] => { results := [.lit (.bool false)], args := [d1, d2, d3] }
  | _ => none }
def LawS1317CExactWrongFalsely : Prop := lawS1317CExactRow.holds Yba.pinned (OpenSpec.ofChange lawS1317CExactWrong)

/-- 'solver.LawS1317CMinOfThree': WHATEVER THE INPUT: true; the input reads as it did. -/
def lawS1317CMinOfThreeSpec : ChangeSpec := { name := "lawS1317CMinOfThree", fn := fun _ => fun
  | [d1, d2, d3, d4] => { results := [.lit (.bool true)], args := [d1, d2, d3, d4] }
  | _ => none }
def lawS1317CMinOfThreeRow : OpenClaim := { program := "ybulkaage", sum := "d237994c5627e878d70da737b3cb4b10095b7a463752a265dec630ee2733f942", func := "example.com/orrery/orrery/pkg/solver.LawS1317CMinOfThree", spec := "lawS1317CMinOfThree", apart := false }
def LawS1317CMinOfThreeSaid : Prop := lawS1317CMinOfThreeRow.holds Yba.pinned (OpenSpec.ofChange lawS1317CMinOfThreeSpec)

/-- ITS FALSE NEIGHBOUR: 'it returns false'. Refute it at one input. -/
def lawS1317CMinOfThreeWrong : ChangeSpec := { name := "lawS1317CMinOfThree", fn := fun _ => fun
  | [d1, d2, d3, d4] => { results := [.lit (.bool false)], args := [d1, d2, d3, d4] }
  | _ => none }
def LawS1317CMinOfThreeWrongFalsely : Prop := lawS1317CMinOfThreeRow.holds Yba.pinned (OpenSpec.ofChange lawS1317CMinOfThreeWrong)

end Rows
end Go.Proofs.Ybulkaage
