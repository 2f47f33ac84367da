/-
  NARROWER THAN 'FOR EVERY INPUT', by the rows' own cells (each row's printed sentence says how): LawS1320BDecode: ifaces, laid · LawS1320BRoundTrip: ifaces, laid.
  DERIVED. THE GIVEN ROWS OF THIS SEAT. 4 by the template 'for every input the law returns true; each argument reads behind the call as it read before'; 0 by the template 'total and deterministic' (their statements: YbulkaahuFmtTotals.lean).
  GIVEN WITH THE SEED: the statements are not yours to turn. If you find one false, say at which input.
  Laid BY PROGRAM, IN A SANDBOX (cutbox-rows.mjs): the forced cells as the released guide's own fill.sh prints them over the translation f90807125656cc09… (all of the seat's roots in one cut). By AI agents, Wed Nov 11 2026. No macro, syntax, notation, axiom, sorry.
-/
import Derived.Test.YbulkaahuFmtChecked
import GoSem.Claim
import GoSem.ClaimJoined
import GoSem.ClaimMapViews
import Derived.JoinedTies
import Derived.KernelRfl
namespace Go.Proofs.YbulkaahuFmt
/- THE CELL 'sum', in the pinned program and in every row, IS THE sha256 OF THE DUMP (.gsa) THAT YbulkaahuFmtProg.lean LOADS. Nothing in Lean hashes anything: it is a label: what it is worth is what the hold of that sum in a sandbox is worth. -/
noncomputable def Ybaf.pinned : Pinned := { name := "ybulkaahufmt", sum := "f90807125656cc0956452c1c6f56a4ad7ec2490884c65e5943adc155c842e7c7", checked := Ybaf.checked }
namespace Rows
def none {H : Type} : Left H := { results := [], args := [] }

/- WHAT THE LISTED PACKAGE-LEVEL VARIABLES READ AS WHEN THE CALL BEGINS. Each datum BY PROGRAM (the guide's laid-datum.mjs) off the statement by which the dump's own 'gosem.cut.vars' lays the variable. In a bare row this is a premise. The card (YbulkaahuFmtCards.lean) ties it to the program's text. -/
def laid_example_com_coralline_coralline_internal_wire_ErrMalformed {H : Type} : DataW H := .iface "*errors.errorString" (.ptr (.agg [.lit (.string [109, 97, 108, 102, 111, 114, 109, 101, 100])]))

/-- 'fleet.LawS1320ALookup': WHATEVER THE INPUT: true; the input reads as it did. -/
def lawS1320ALookupSpec : ChangeSpec := { name := "lawS1320ALookup", fn := fun _ => fun
  | [d1, d2, d3] => { results := [.lit (.bool true)], args := [d1, d2, d3] }
  | _ => none }
def lawS1320ALookupRow : OpenClaim := { program := "ybulkaahufmt", sum := "f90807125656cc0956452c1c6f56a4ad7ec2490884c65e5943adc155c842e7c7", func := "example.com/coralline/coralline/internal/fleet.LawS1320ALookup", spec := "lawS1320ALookup", stops := ["fmt.errorf", "fmt.Sprintf"], inPlace := ["fmt.errorf"], apart := false }
/-- NO THEOREM (fmt's text is open here; it may be false): for the released tool's asking of the row's closed facts alone. THE STATEMENT IS 'LawS1320ALookupToldSaid' (YbulkaahuFmtCards.lean). -/
def LawS1320ALookupFormAsk : Prop := lawS1320ALookupRow.holds Ybaf.pinned (OpenSpec.ofChange lawS1320ALookupSpec)

/-- ITS FALSE NEIGHBOUR: 'it returns false'. Refute it at one input. -/
def lawS1320ALookupWrong : ChangeSpec := { name := "lawS1320ALookup", fn := fun _ => fun
  | [d1, d2, d3] => { results := [.lit (.bool false)], args := [d1, d2, d3] }
  | _ => none }
def LawS1320ALookupWrongFormAsk : Prop := lawS1320ALookupRow.holds Ybaf.pinned (OpenSpec.ofChange lawS1320ALookupWrong)

/-- 'fleet.LawS1320AFirstName': WHATEVER THE INPUT: true; the input reads as it did. -/
def lawS1320AFirstNameSpec : ChangeSpec := { name := "lawS1320AFirstName", fn := fun _ => fun
  | [d1, d2] => { results := [.lit (.bool true)], args := [d1, d2] }
  | _ => none }
def lawS1320AFirstNameRow : OpenClaim := { program := "ybulkaahufmt", sum := "f90807125656cc0956452c1c6f56a4ad7ec2490884c65e5943adc155c842e7c7", func := "example.com/coralline/coralline/internal/fleet.LawS1320AFirstName", spec := "lawS1320AFirstName", stops := ["fmt.errorf", "fmt.Sprintf"], inPlace := ["fmt.errorf"], apart := false }
/-- NO THEOREM (fmt's text is open here; it may be false): for the released tool's asking of the row's closed facts alone. THE STATEMENT IS 'LawS1320AFirstNameToldSaid' (YbulkaahuFmtCards.lean). -/
def LawS1320AFirstNameFormAsk : Prop := lawS1320AFirstNameRow.holds Ybaf.pinned (OpenSpec.ofChange lawS1320AFirstNameSpec)

/-- ITS FALSE NEIGHBOUR: 'it returns false'. Refute it at one input. -/
def lawS1320AFirstNameWrong : ChangeSpec := { name := "lawS1320AFirstName", fn := fun _ => fun
  | [d1, d2] => { results := [.lit (.bool false)], args := [d1, d2] }
  | _ => none }
def LawS1320AFirstNameWrongFormAsk : Prop := lawS1320AFirstNameRow.holds Ybaf.pinned (OpenSpec.ofChange lawS1320AFirstNameWrong)

/-- 'wire.LawS1320BDecode': WHATEVER THE INPUT: true; the input reads as it did. -/
def lawS1320BDecodeSpec : ChangeSpec := { name := "lawS1320BDecode", vars := ["example.com/coralline/coralline/internal/wire.ErrMalformed"], fn := fun _ => fun
  | [d1, d2, d3, g1] => { results := [.lit (.bool true)], args := [d1, d2, d3], vars := [g1] }
  | _ => none }
def lawS1320BDecodeRow : OpenClaim := { program := "ybulkaahufmt", sum := "f90807125656cc0956452c1c6f56a4ad7ec2490884c65e5943adc155c842e7c7", func := "example.com/coralline/coralline/internal/wire.LawS1320BDecode", spec := "lawS1320BDecode", stops := ["fmt.errorf", "fmt.Sprintf"], inPlace := ["fmt.Sprintf", "fmt.errorf", "internal/reflectlite.TypeOf"], unfollowed := true, recurses := true, named := ["example.com/coralline/coralline/internal/wire.ErrMalformed"], ifaces := true, apart := false, laid := [("example.com/coralline/coralline/internal/wire.ErrMalformed", laid_example_com_coralline_coralline_internal_wire_ErrMalformed)] }
/-- NO THEOREM (fmt's text is open here; it may be false): for the released tool's asking of the row's closed facts alone. THE STATEMENT IS 'LawS1320BDecodeToldSaid' (YbulkaahuFmtCards.lean). -/
def LawS1320BDecodeFormAsk : Prop := lawS1320BDecodeRow.holds Ybaf.pinned (OpenSpec.ofChange lawS1320BDecodeSpec)

/-- ITS FALSE NEIGHBOUR: 'it returns false'. Refute it at one input. -/
def lawS1320BDecodeWrong : ChangeSpec := { name := "lawS1320BDecode", vars := ["example.com/coralline/coralline/internal/wire.ErrMalformed"], fn := fun _ => fun
  | [d1, d2, d3, g1] => { results := [.lit (.bool false)], args := [d1, d2, d3], vars := [g1] }
  | _ => none }
def LawS1320BDecodeWrongFormAsk : Prop := lawS1320BDecodeRow.holds Ybaf.pinned (OpenSpec.ofChange lawS1320BDecodeWrong)

/-- 'wire.LawS1320BRoundTrip': WHATEVER THE INPUT: true; the input reads as it did. -/
def lawS1320BRoundTripSpec : ChangeSpec := { name := "lawS1320BRoundTrip", vars := ["example.com/coralline/coralline/internal/wire.ErrMalformed"], fn := fun _ => fun
  | [d, g1] => { results := [.lit (.bool true)], args := [d], vars := [g1] }
  | _ => none }
def lawS1320BRoundTripRow : OpenClaim := { program := "ybulkaahufmt", sum := "f90807125656cc0956452c1c6f56a4ad7ec2490884c65e5943adc155c842e7c7", func := "example.com/coralline/coralline/internal/wire.LawS1320BRoundTrip", spec := "lawS1320BRoundTrip", stops := ["fmt.errorf", "fmt.Sprintf"], inPlace := ["fmt.Sprintf", "fmt.errorf"], named := ["example.com/coralline/coralline/internal/wire.ErrMalformed"], ifaces := true, apart := false, laid := [("example.com/coralline/coralline/internal/wire.ErrMalformed", laid_example_com_coralline_coralline_internal_wire_ErrMalformed)] }
/-- NO THEOREM (fmt's text is open here; it may be false): for the released tool's asking of the row's closed facts alone. THE STATEMENT IS 'LawS1320BRoundTripToldSaid' (YbulkaahuFmtCards.lean). -/
def LawS1320BRoundTripFormAsk : Prop := lawS1320BRoundTripRow.holds Ybaf.pinned (OpenSpec.ofChange lawS1320BRoundTripSpec)

/-- ITS FALSE NEIGHBOUR: 'it returns false'. Refute it at one input. -/
def lawS1320BRoundTripWrong : ChangeSpec := { name := "lawS1320BRoundTrip", vars := ["example.com/coralline/coralline/internal/wire.ErrMalformed"], fn := fun _ => fun
  | [d, g1] => { results := [.lit (.bool false)], args := [d], vars := [g1] }
  | _ => none }
def LawS1320BRoundTripWrongFormAsk : Prop := lawS1320BRoundTripRow.holds Ybaf.pinned (OpenSpec.ofChange lawS1320BRoundTripWrong)

end Rows
end Go.Proofs.YbulkaahuFmt
