/-
  DERIVED. GIVEN WITH THE SEED: THE CARDS: each row of YbulkaahuFmtRows.lean that lists a variable, with what it lists TIED to the program's text (the seventh form; the later family's looks); each row that meets fmt, with fmt's text TOLD by the authors' own Lean function (tested against real Go, not proved from fmt's source: count such statements apart). THE CARD IS WHAT COUNTS. Prove the row's statement (the work); the ties are given (YbulkaahuFmtTie.lean); close each card by the builder's one call (the guide's Derived/Test/ToyasCard.lean, 'card_holds'). Laid BY PROGRAM, IN A SANDBOX (cutbox-door.mjs). By AI agents, Wed Nov 11 2026. No macro, syntax, notation, axiom, sorry.
-/
import Derived.Test.YbulkaahuFmtRows
import GoSem.ClaimSeven
namespace Go.Proofs.YbulkaahuFmt
namespace Rows

/-- THE TOLD CARD OF 'fleet.LawS1320ALookup'. -/
def lawS1320ALookupCard : Claim7 := { stood := { row := lawS1320ALookupRow, standIns := [], harness := (true, "e51b921700f9131f54b804b32c1499e8415d40f5c93478884230da06d5cd5e45"), looks := true }, told := true, goes := false }
def LawS1320ALookupToldSaid : Prop := Claim7.holds Ybaf.pinned (.plain (OpenSpec.ofChange lawS1320ALookupSpec)) lawS1320ALookupCard
/-- ITS FALSE NEIGHBOUR. Refute it at one input. -/
def LawS1320ALookupToldWrongFalsely : Prop := Claim7.holds Ybaf.pinned (.plain (OpenSpec.ofChange lawS1320ALookupWrong)) lawS1320ALookupCard

/-- THE TOLD CARD OF 'fleet.LawS1320AFirstName'. -/
def lawS1320AFirstNameCard : Claim7 := { stood := { row := lawS1320AFirstNameRow, standIns := [], harness := (true, "e51b921700f9131f54b804b32c1499e8415d40f5c93478884230da06d5cd5e45"), looks := true }, told := true, goes := false }
def LawS1320AFirstNameToldSaid : Prop := Claim7.holds Ybaf.pinned (.plain (OpenSpec.ofChange lawS1320AFirstNameSpec)) lawS1320AFirstNameCard
/-- ITS FALSE NEIGHBOUR. Refute it at one input. -/
def LawS1320AFirstNameToldWrongFalsely : Prop := Claim7.holds Ybaf.pinned (.plain (OpenSpec.ofChange lawS1320AFirstNameWrong)) lawS1320AFirstNameCard

/-- THE TOLD AND TIED CARD OF 'wire.LawS1320BDecode'. -/
def lawS1320BDecodeCard : Claim7 := { stood := { row := lawS1320BDecodeRow, standIns := [], harness := (true, "e51b921700f9131f54b804b32c1499e8415d40f5c93478884230da06d5cd5e45"), looks := true }, told := true, laidByText := true, laidKinds := [.sentinel], laidTests := true, laidLooks := .later, goes := false }
def LawS1320BDecodeToldSaid : Prop := Claim7.holds Ybaf.pinned (.plain (OpenSpec.ofChange lawS1320BDecodeSpec)) lawS1320BDecodeCard
/-- ITS FALSE NEIGHBOUR. Refute it at one input. -/
def LawS1320BDecodeToldWrongFalsely : Prop := Claim7.holds Ybaf.pinned (.plain (OpenSpec.ofChange lawS1320BDecodeWrong)) lawS1320BDecodeCard

/-- THE TOLD AND TIED CARD OF 'wire.LawS1320BRoundTrip'. -/
def lawS1320BRoundTripCard : Claim7 := { stood := { row := lawS1320BRoundTripRow, standIns := [], harness := (true, "e51b921700f9131f54b804b32c1499e8415d40f5c93478884230da06d5cd5e45"), looks := true }, told := true, laidByText := true, laidKinds := [.sentinel], laidTests := true, laidLooks := .later, goes := false }
def LawS1320BRoundTripToldSaid : Prop := Claim7.holds Ybaf.pinned (.plain (OpenSpec.ofChange lawS1320BRoundTripSpec)) lawS1320BRoundTripCard
/-- ITS FALSE NEIGHBOUR. Refute it at one input. -/
def LawS1320BRoundTripToldWrongFalsely : Prop := Claim7.holds Ybaf.pinned (.plain (OpenSpec.ofChange lawS1320BRoundTripWrong)) lawS1320BRoundTripCard
end Rows
end Go.Proofs.YbulkaahuFmt
