/-
  WHAT THE LISTED VARIABLE GIVES (the sentinel of package wire), at this dump's numbers. The names are taken out of the given rows, not typed anew.
-/
import Derived.Test.YbulkaahuFmtRows
import Derived.ProofKit
import Derived.Stop.JoinedAt
import Derived.Stop.JoinedTold
import Derived.Stop.LaidErr
import Derived.OpenShut
import Derived.WalkSmall
namespace Go.Proofs.YbulkaahuFmt
open Go.ChangeShapes Go.WideShapes Go.ChangeAt Go.RowKit
open Go.Extern.Stop Go.Stop Go.Extern

/-- The variable's name. -/
def vn : String := Rows.lawS1320BRoundTripSpec.vars.headD ""
def nameOf : DataW Unit → String
  | .iface n _ => n
  | _ => ""
/-- The sentinel's dynamic type's name. -/
def nm83 : String := nameOf Rows.laid_example_com_coralline_coralline_internal_wire_ErrMalformed

theorem gErr : Ybaf.prog.globalNamed vn = some 0 := by kernel_rfl
theorem gErrType : (Ybaf.prog.globals[0]?).map (·.type) = some 39 := by kernel_rfl
theorem cells85 : Ybaf.prog.cellsOf 85 = 1 := by kernel_rfl
theorem lcells9 : Ybaf.prog.cellsOf 9 = 1 := by kernel_rfl
theorem row83 (u : TypeId) (h : Ybaf.prog.typeName? 3 u = some nm83) : u = 83 :=
  typeName_ptr_named (P := Ybaf.prog) (nm := "errors.errorString") (tp := 83) (by kernel_rfl) (by kernel_rfl) (by decide) u (h.trans (by kernel_rfl))

/-- A world in which the sentinel lies as its initialiser lays it. -/
theorem laid_world (os : Os) (args : Array Value) : ∃ w0 : World, w0 = { World.holding Ybaf.prog os ⟨#[.cells #[.string ⟨#[109, 97, 108, 102, 111, 114, 109, 101, 100]⟩] 85], #[], []⟩ with
      heap := (World.holding Ybaf.prog os ⟨#[.cells #[.string ⟨#[109, 97, 108, 102, 111, 114, 109, 101, 100]⟩] 85], #[], []⟩).heap.modify 0 fun
        | .cells _ t frozen => .cells #[.iface 83 (.pointer (some ⟨(World.holding Ybaf.prog default ⟨#[], #[], []⟩).heap.size, 0, none⟩))] t frozen
        | o => o } ∧ laidMet Ybaf.prog Rows.lawS1320BRoundTripRow.laid (w0.forCall (fun _ _ => 0) ⟨#[], args, []⟩).memory :=
  ⟨_, rfl, laidMet_of_run (ps := [.cell 0 0, .cell (World.holding Ybaf.prog default ⟨#[], #[], []⟩).heap.size 0]) 8 (by kernel_rfl) (by kernel_rfl) (by kernel_rfl)⟩

/-- What the premise on the listed variable gives: the variable holds a pointer to the text. -/
theorem laid_gives {W : World} (hL : laidMet Ybaf.prog Rows.lawS1320BRoundTripRow.laid W) :
    ∃ (a : Addr) (s : ByteArray), W.var? Ybaf.prog vn = some #[.iface 83 (.pointer (some a))] ∧ W.cell? a = some (.string s) ∧ s.size ≤ maxLen := by
  obtain ⟨a, s, h1, h2, _, h4⟩ := laid_sentinel hL gErr gErrType Ybaf.underlying39 row83 Ybaf.underlying83 Ybaf.underlying85 rfl rfl Ybaf.underlying9 cells85 lcells9
  exact ⟨a, s, h1, h2, h4⟩
end Go.Proofs.YbulkaahuFmt
