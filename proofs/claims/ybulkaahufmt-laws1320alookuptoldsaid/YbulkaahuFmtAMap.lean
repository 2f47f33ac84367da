import Derived.Test.YbulkaahuFmtRows
import Derived.WalkKit
import Derived.WalkSpells
import Derived.WalkLawsBesides
import Derived.Below
import Derived.WalkSmall
import Derived.Deep.OwnRows
import Derived.Deep.QuietTactic
import Derived.BigQuiet
import Derived.Outline
import Derived.RegionTactic
import Derived.Maps.Own
import Derived.Maps.OwnSet
namespace Go.Proofs.YbulkaahuFmt
open Go.RowKit Go.Maps

/-- An element that is told by its very value. -/
def anyElem (v : Value) : Option (DataW Value × List MemPlace) := some (.held v, [])

theorem law : Keyed Ybaf.prog 9 := string_keyed Ybaf.underlying9

/-- A Proxy, of the four fields that the laws write. -/
def proxyV (nm : ByteArray) (t : Int) (rg ad : ByteArray) : Value := .agg #[.string nm, .int .i64 t, .string rg, .string ⟨#[]⟩, .slice none 0 0, .slice none 0 0, .pointer none, .string ad]

theorem zero32 (w : World) : (zeroValue 32).run Ybaf.prog w = .ok (proxyV ⟨#[]⟩ 0 ⟨#[]⟩ ⟨#[]⟩) w := by kernel_rfl

def key (s : ByteArray) : Lit := .string s.data.toList

theorem key_of {s : ByteArray} (hs : s.size ≤ maxLen) : keyOf Ybaf.prog 9 (.string s) = some (key s) := Go.WideMaps.keyOf_string_mk Ybaf.underlying9 hs

/-- 'p.fleet.Proxies[name]', the name is there. -/
theorem look_hit {w : World} {B n : Nat} {D : DataW Value} {s : ByteArray} {v : Value} (hown : w.ownsMap Ybaf.prog 9 anyElem B n D) (hs : s.size ≤ maxLen) (hhas : Maps.has D (key s) = true) (hat : ∀ z, D.atKey (key s) z = .held v) :
    (Instr.lookup 26 (.map (some B)) (.string s) true).run Ybaf.prog w = .ok (.tuple #[v, .bool true]) w := by
  obtain ⟨v', ps, hrun, hv⟩ := hown.look_ok law Ybaf.underlying26 (zero32 w) (zd := .held (proxyV ⟨#[]⟩ 0 ⟨#[]⟩ ⟨#[]⟩)) (zp := []) rfl (key_of hs)
  rw [hat, hhas] at *
  simp only [anyElem, Option.some.injEq, Prod.mk.injEq, DataW.held.injEq] at hv
  rw [hv.1] at hrun
  exact hrun

theorem proxy_hit (pb fb B n : Nat) (D : DataW Value) (s nm rg ad : ByteArray) (t : Int) (w : World) (hown : w.ownsMap Ybaf.prog 9 anyElem B n D) (hs : s.size ≤ maxLen) (hhas : Maps.has D (key s) = true) (hat : ∀ z, D.atKey (key s) z = .held (proxyV nm t rg ad))
    (c1 : w.cell? ⟨pb, 0, none⟩ = some (.pointer (some ⟨fb, 0, none⟩))) (c2 : w.cell? ⟨fb, 1, none⟩ = some (.map (some B))) :
    Calls Ybaf.prog 8 #[.pointer (some ⟨pb, 0, none⟩), .string s] w fun e w' => e = .returned (.tuple #[proxyV nm t rg ad, .nilIface]) ∧ Below w.heap.size w w' := by
  have l1 : pb < w.heap.size := block_lt_of_cell c1
  have l2 : fb < w.heap.size := block_lt_of_cell c2
  have hlk : ∀ o, (Instr.lookup 26 (.map (some B)) (.string s) true).run Ybaf.prog (w.alloc o) = .ok (.tuple #[proxyV nm t rg ad, .bool true]) (w.alloc o) := fun o => look_hit (hown.alloc o) hs hhas hat
  unfold proxyV at hlk ⊢
  clear hown hhas hat
  go_enter Ybaf.func8, Ybaf.ntmps8
  go_wp2
  exact bodyPost_ret (v := .tuple #[.agg #[.string nm, .int .i64 t, .string rg, .string ⟨#[]⟩, .slice none 0 0, .slice none 0 0, .pointer none, .string ad], .nilIface]) (by simp [results, Ybaf.results8, go_sem]) rfl ⟨rfl, ((Below.refl _ _).alloc (Nat.le_refl _) _).alloc (by simp) _⟩
end Go.Proofs.YbulkaahuFmt
