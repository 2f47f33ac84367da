/-
  errors.Is AT THIS DUMP, for the one case that the law meets: an error that fmt.Errorf made by a wrap of the sentinel itself (after the guide's SentryIs.lean; the numbers are this dump's).
-/
import Derived.Test.YbulkaahuFmtRows
import Derived.WalkKit
import Derived.LaidEql
import Derived.Stop.Asserts
import Derived.RowKitTokens
import Derived.Outline
namespace Go.Proofs.YbulkaahuFmt
open Go.RowKit Go.Extern.Stop Go.Stop Go.Extern

theorem isTypeOf (v : Value) (w : World) : (Extern.ReflectliteType.typeOf #[.iface 83 v]).run Ybaf.prog w = .ok (.iface 73 (.agg #[.pointer (some ⟨1, 83, none⟩)])) w := by kernel_rfl
/-- what Comparable of reflectlite's rtype runs -/
def cmpM : Array Value → Sem Value := Extern.ReflectliteType.method fun t => do Extern.Rtype.noPackHeld "Comparable" t; pure (.bool (← typeInfo t).comparable)
theorem isComparable (w : World) : (cmpM #[.agg #[.pointer (some ⟨1, 83, none⟩)]]).run Ybaf.prog w = .ok (.bool true) w := by kernel_rfl
theorem isMethodComparable (v : Value) (w : World) : (Go.method 231 73 v "Comparable").run Ybaf.prog w = .ok (45, v) w := by kernel_rfl
theorem isComp : (Ybaf.prog.info? 83).map (·.comparable) = some true := by kernel_rfl
theorem isSize : (Ybaf.prog.info? 85).map (·.size) = some 1 := by kernel_rfl
theorem noIsW (v : Value) (xT : TypeId) (w : World) : (Instr.typeAssert (.iface 70 v) xT 75 true).run Ybaf.prog w = .ok (.tuple #[.nilIface, .bool false]) w := run_typeAssert_lacksB Ybaf.underlying75 (by kernel_rfl) (by kernel_rfl) v xT w
theorem hasUnwrapW (v : Value) (xT : TypeId) (w : World) : (Instr.typeAssert (.iface 70 v) xT 78 true).run Ybaf.prog w = .ok (.tuple #[.iface 70 v, .bool true]) w := run_typeAssert_hasB Ybaf.underlying78 (by kernel_rfl) v xT w
theorem methodUnwrap (v : Value) (w : World) : (Go.method 231 70 v "Unwrap").run Ybaf.prog w = .ok (41, v) w := by kernel_rfl

set_option maxHeartbeats 1000000 in
/-- errors.Is(e, x), e a *fmt.wrapError that wraps x itself: one Unwrap, then equal. -/
theorem is_wrap_same (pb po : Nat) (b : Addr) (w : World) (h1 : w.cell? ⟨pb, po + 1, none⟩ = some (.iface 83 (.pointer (some b)))) :
    Calls Ybaf.prog 11 #[.iface 70 (.pointer (some ⟨pb, po, none⟩)), .iface 83 (.pointer (some b))] w fun e w' => e = .returned (.bool true) ∧ w' = w := by
  obtain ⟨i, hi, hcmp⟩ := Option.map_eq_some_iff.1 isComp
  obtain ⟨j, hj, hjs⟩ := Option.map_eq_some_iff.1 isSize
  have h17 := @run_callFunc_extern Ybaf.prog 17 _ Extern.ReflectliteType.typeOf Ybaf.func17 (by kernel_rfl) (by kernel_rfl) (by kernel_rfl) (by kernel_rfl)
  have h45 := @run_callFunc_extern Ybaf.prog 45 _ cmpM Ybaf.func45 (by kernel_rfl) (by kernel_rfl) (by kernel_rfl) (by kernel_rfl)
  have tT := isTypeOf
  have cT := isComparable
  have mR := isMethodComparable
  have nW := noIsW
  have uW := hasUnwrapW
  have mU := methodUnwrap
  have heq := run_eql_iface_ptr_same (P := Ybaf.prog) w b Ybaf.underlying39 Ybaf.underlying83 hi hcmp hj
  have hty := run_eql_iface_types (P := Ybaf.prog) 70 83 (.pointer (some ⟨pb, po, none⟩)) (.pointer (some b)) Ybaf.underlying39 (by decide) w
  go_enter Ybaf.func11, Ybaf.ntmps11
  go_wp2
  refine wp_loop_rounds 2 ?_
  rw [rounds_succ]
  go_wp2
  rw [rounds_succ]
  go_wp2
  go_ret
  exact ⟨rfl, rfl⟩
end Go.Proofs.YbulkaahuFmt
