import Derived.Test.YbulkaahuFmtAMap
import Derived.Test.YbulkaahuFmtStops
namespace Go.Proofs.YbulkaahuFmt
open Go.RowKit Go.Maps
open Go.Extern.Stop Go.Stop Go.Extern

/-- 'p.fleet.Proxies[name]', the name is not there. -/
theorem look_miss {w : World} {B n : Nat} {D : DataW Value} {s : ByteArray} (hown : w.ownsMap Ybaf.prog 9 anyElem B n D) (hs : s.size ≤ maxLen) (hhas : Maps.has D (key s) = false) :
    (Instr.lookup 26 (.map (some B)) (.string s) true).run Ybaf.prog w = .ok (.tuple #[proxyV ⟨#[]⟩ 0 ⟨#[]⟩ ⟨#[]⟩, .bool false]) w := by
  obtain ⟨v', ps, hrun, hv⟩ := hown.look_ok law Ybaf.underlying26 (zero32 w) (zd := .held (proxyV ⟨#[]⟩ 0 ⟨#[]⟩ ⟨#[]⟩)) (zp := []) rfl (key_of hs)
  rw [atKey_of_not_has hhas] at hv
  rw [hhas] at hrun
  simp only [anyElem, Option.some.injEq, Prod.mk.injEq, DataW.held.injEq] at hv
  rw [hv.1] at hrun
  exact hrun

/-- The same of a nil map. -/
theorem look_none (w : World) {s : ByteArray} (hs : s.size ≤ maxLen) :
    (Instr.lookup 26 (.map none) (.string s) true).run Ybaf.prog w = .ok (.tuple #[proxyV ⟨#[]⟩ 0 ⟨#[]⟩ ⟨#[]⟩, .bool false]) w := by
  have h := Maps.look_nil (w := w) true law Ybaf.underlying26 (zero32 w) (key_of hs)
  simpa using h

attribute [local go_sem] call19 fguard fmt0 fmt0r op9_115w ptr83 elem83 isError83

set_option maxHeartbeats 400000 in
theorem proxy_miss (F : Interp) (pb fb : Nat) (mv : Option Nat) (s : ByteArray) (w : World) (hF : F.answers w.tape)
    (hlk0 : ∀ o, (Instr.lookup 26 (.map mv) (.string s) true).run Ybaf.prog (w.alloc o) = .ok (.tuple #[proxyV ⟨#[]⟩ 0 ⟨#[]⟩ ⟨#[]⟩, .bool false]) (w.alloc o))
    (c1 : w.cell? ⟨pb, 0, none⟩ = some (.pointer (some ⟨fb, 0, none⟩))) (c2 : w.cell? ⟨fb, 1, none⟩ = some (.map mv)) :
    Calls Ybaf.prog 8 #[.pointer (some ⟨pb, 0, none⟩), .string s] w fun e w' => ∃ a, e = .returned (.tuple #[proxyV ⟨#[]⟩ 0 ⟨#[]⟩ ⟨#[]⟩, .iface 83 (.pointer (some a))]) ∧ Below w.heap.size w w' := by
  have l1 : pb < w.heap.size := block_lt_of_cell c1
  have l2 : fb < w.heap.size := block_lt_of_cell c2
  have hF' := answers_open hF
  have hlk := hlk0
  unfold proxyV at hlk ⊢
  clear hlk0
  go_enter Ybaf.func8, Ybaf.ntmps8
  go_wp2
  exact bodyPost_ret (v := .tuple #[.agg #[.string ⟨#[]⟩, .int .i64 0, .string ⟨#[]⟩, .string ⟨#[]⟩, .slice none 0 0, .slice none 0 0, .pointer none, .string ⟨#[]⟩], .iface 83 (.pointer (some ⟨w.heap.size + 1 + 1 + 1, 0, none⟩))]) (by simp [results, Ybaf.results8, go_sem]) rfl
    ⟨_, rfl, (((((Below.refl _ _).alloc (Nat.le_refl _) _).alloc (by simp) _).alloc (by simp; omega) _).alloc (by simp; omega) _).drew⟩
end Go.Proofs.YbulkaahuFmt
