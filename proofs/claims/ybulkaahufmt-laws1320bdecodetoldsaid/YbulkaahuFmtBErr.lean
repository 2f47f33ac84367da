/-
  fmt.Errorf OVER "%w: %s" AT THE SENTINEL: the new error wraps it.
-/
import Derived.Test.YbulkaahuFmtStops
import Derived.Test.YbulkaahuFmtBLaid
import Derived.WalkKit
import Derived.WalkSpells
import Derived.BigCall
import Derived.Below
import Derived.Deep.RegionWith
import Derived.Stop.Texts
namespace Go.Proofs.YbulkaahuFmt
open Go.RowKit Go.Extern.Stop Go.Stop Go.Extern

def plain83 : List UInt8 := 14 :: FmtStop.pack nm83.toUTF8.data.toList
theorem opPlain83_119w (name : String) (a : Addr) (s : ByteArray) (w : World) (hc : w.cell? a = some (.string s)) :
    (FmtStop.operand name true 119 false (.iface 83 (.pointer (some a)))).run Ybaf.prog w = .ok (plain83, s.data.toList) w := by
  have h1 : (typeStr 83).run Ybaf.prog w = .ok nm83 w := by kernel_rfl
  have d2 : Ybaf.t83.desc = .pointer 85 := rfl
  have d3 : Ybaf.t85.desc = .named "errors.errorString" 84 := rfl
  simp [FmtStop.operand, h1, d2, d3, run_load, hc, plain83]

attribute [local go_sem] call19 fguard fmt1 fmt1r op9_115w ptr70 elem70 isError70 isError83

set_option maxHeartbeats 1000000 in
set_option maxRecDepth 20000 in
theorem errorf_wrap (F : Interp) (g : Nat) (a : Addr) (s : ByteArray) (w : World) (hF : F.answers w.tape)
    (c0 : w.cell? ⟨g, 0, none⟩ = some (.iface 83 (.pointer (some a)))) (c1' : ∃ x, w.cell? ⟨g, 1, none⟩ = some (.iface 9 (.string x))) (hs : w.cell? a = some (.string s)) :
    Calls Ybaf.prog 14 #[.string ⟨#[37, 119, 58, 32, 37, 115]⟩, .slice (some ⟨g, 0, none⟩) 2 2] w fun e w' =>
      e = .returned (.iface 70 (.pointer (some ⟨w.heap.size, 0, none⟩))) ∧ w'.cell? ⟨w.heap.size, 1, none⟩ = some (.iface 83 (.pointer (some a))) ∧ Below w.heap.size w w' := by
  have hF' := answers_open hF
  obtain ⟨x, c1⟩ := c1'
  have hop := opPlain83_119w "fmt.errorf" a s w hs
  go_enter Ybaf.func14, Ybaf.ntmps14
  go_wp2
  go_ret
  exact ⟨rfl, by go_simp, ((Below.refl _ w).alloc (Nat.le_refl _) _).drew⟩

attribute [local go_sem] call21 fmt2 fmt2r fmt3 fmt3r op3_100

/-- What Reader.Fail leaves: the reader's error wraps the sentinel. -/
def FailPost (R : Nat) (a : Addr) (w w' : World) : Prop := Below R w w' ∧ w'.cell? ⟨R, 1, none⟩ = w.cell? ⟨R, 1, none⟩ ∧
  ∃ p, w'.cell? ⟨R, 2, none⟩ = some (.iface 70 (.pointer (some ⟨p, 0, none⟩))) ∧ w'.cell? ⟨p, 1, none⟩ = some (.iface 83 (.pointer (some a)))

theorem fail_fin {R : Nat} {a : Addr} {w y w' : World} {v : Value} {N : Nat} (hN : y.heap.size = N) (hR : R < w.heap.size) (hy : Below w.heap.size w y) (hb : Below y.heap.size y w')
    (hp : w'.cell? ⟨y.heap.size, 1, none⟩ = some (.iface 83 (.pointer (some a)))) (hc : w'.cell? ⟨R, 2, none⟩ = some v) :
    FailPost R a w (w'.setCell ⟨R, 2, none⟩ (.iface 70 (.pointer (some ⟨N, 0, none⟩)))) := by
  subst hN
  have h1 := hy.size
  have hB : Below w.heap.size w w' := hy.trans (hb.mono hy.size)
  refine ⟨(hB.mono (Nat.le_of_lt hR)).setCell (Nat.le_refl _) _, ?_, y.heap.size, ?_, ?_⟩
  · exact (World.cell?_setCell_other w' _ _ _ (by simp)).trans (hB.cell hR)
  · exact World.cell?_setCell_same w' _ _ hc
  · exact (World.cell?_setCell_other w' _ _ _ (by simp)).trans hp

set_option maxHeartbeats 1000000 in
set_option maxRecDepth 20000 in
theorem fail_short (F : Interp) (R g : Nat) (x : Int) (a : Addr) (s : ByteArray) (w : World) (hF : F.answers w.tape)
    (hg : w.cell? ⟨0, 0, none⟩ = some (.iface 83 (.pointer (some a)))) (hs : w.cell? a = some (.string s))
    (c0 : w.cell? ⟨g, 0, none⟩ = some (.iface 3 (.int .i64 x))) (cE : w.cell? ⟨R, 2, none⟩ = some .nilIface) (fz : w.frozen? ⟨R, 2, none⟩ = false) :
    Calls Ybaf.prog 16 #[.pointer (some ⟨R, 0, none⟩), .string ⟨#[99, 117, 116, 32, 115, 104, 111, 114, 116, 32, 97, 116, 32, 98, 121, 116, 101, 32, 37, 100]⟩, .slice (some ⟨g, 0, none⟩) 1 1] w fun e w' =>
      e = .returned (.tuple #[]) ∧ FailPost R a w w' := by
  have hF' := answers_open hF
  have h0 : 0 < w.heap.size := World.block_lt_of_cell? _ _ hg
  have hRl : R < w.heap.size := World.block_lt_of_cell? _ _ cE
  go_enter Ybaf.func16, Ybaf.ntmps16
  have fR : R < w.heap.size + 1 := by omega
  have ha : a.block < w.heap.size := World.block_lt_of_cell? _ _ hs
  have hs' : ∀ o, (w.alloc o).cell? a = some (.string s) := fun o => (World.cell?_alloc_lt _ _ _ ha).trans hs
  have fz1 : ∀ o, (w.alloc o).frozen? ⟨R, 2, none⟩ = false := fun o => ((((Below.refl _ w).alloc (Nat.le_refl _) o).frozen (p := ⟨R, 2, none⟩) hRl)).trans fz
  have cE1 : ∀ o, (w.alloc o).cell? ⟨R, 2, none⟩ = some .nilIface := fun o => ((((Below.refl _ w).alloc (Nat.le_refl _) o).cell (p := ⟨R, 2, none⟩) hRl)).trans cE
  go_wp2
  go_region_with (first
    | (go_at_call 14
       refine (errorf_wrap F _ a s _ (by exact hF) (by simp) ⟨_, by simp; rfl⟩ (by exact hs' _)).mono ?_
       rintro e w' ⟨rfl, hp, hb⟩
       have fz' : w'.frozen? ⟨R, 2, none⟩ = false := (hb.frozen (p := ⟨R, 2, none⟩) (by simp; omega)).trans (by exact fz1 _)
       have cE' : w'.cell? ⟨R, 2, none⟩ = some .nilIface := (hb.cell (p := ⟨R, 2, none⟩) (by simp; omega)).trans (by exact cE1 _)))
  all_goals go_end0
  all_goals exact ⟨rfl, fail_fin (y := World.drew (World.drew (World.alloc w _))) (by simp) hRl (((Below.refl _ w).alloc (Nat.le_refl _) _).drew.drew) hb hp cE'⟩
set_option maxHeartbeats 1000000 in
set_option maxRecDepth 20000 in
theorem fail_over (F : Interp) (R g : Nat) (x : Int) (a : Addr) (s : ByteArray) (w : World) (hF : F.answers w.tape)
    (hg : w.cell? ⟨0, 0, none⟩ = some (.iface 83 (.pointer (some a)))) (hs : w.cell? a = some (.string s))
    (c0 : w.cell? ⟨g, 0, none⟩ = some (.iface 3 (.int .i64 x))) (cE : w.cell? ⟨R, 2, none⟩ = some .nilIface) (fz : w.frozen? ⟨R, 2, none⟩ = false) :
    Calls Ybaf.prog 16 #[.pointer (some ⟨R, 0, none⟩), .string ⟨#[110, 117, 109, 98, 101, 114, 32, 97, 116, 32, 98, 121, 116, 101, 32, 37, 100, 32, 111, 118, 101, 114, 102, 108, 111, 119, 115, 32, 54, 52, 32, 98, 105, 116, 115]⟩, .slice (some ⟨g, 0, none⟩) 1 1] w fun e w' =>
      e = .returned (.tuple #[]) ∧ FailPost R a w w' := by
  have hF' := answers_open hF
  have h0 : 0 < w.heap.size := World.block_lt_of_cell? _ _ hg
  have hRl : R < w.heap.size := World.block_lt_of_cell? _ _ cE
  go_enter Ybaf.func16, Ybaf.ntmps16
  have fR : R < w.heap.size + 1 := by omega
  have ha : a.block < w.heap.size := World.block_lt_of_cell? _ _ hs
  have hs' : ∀ o, (w.alloc o).cell? a = some (.string s) := fun o => (World.cell?_alloc_lt _ _ _ ha).trans hs
  have fz1 : ∀ o, (w.alloc o).frozen? ⟨R, 2, none⟩ = false := fun o => ((((Below.refl _ w).alloc (Nat.le_refl _) o).frozen (p := ⟨R, 2, none⟩) hRl)).trans fz
  have cE1 : ∀ o, (w.alloc o).cell? ⟨R, 2, none⟩ = some .nilIface := fun o => ((((Below.refl _ w).alloc (Nat.le_refl _) o).cell (p := ⟨R, 2, none⟩) hRl)).trans cE
  go_wp2
  go_region_with (first
    | (go_at_call 14
       refine (errorf_wrap F _ a s _ (by exact hF) (by simp) ⟨_, by simp; rfl⟩ (by exact hs' _)).mono ?_
       rintro e w' ⟨rfl, hp, hb⟩
       have fz' : w'.frozen? ⟨R, 2, none⟩ = false := (hb.frozen (p := ⟨R, 2, none⟩) (by simp; omega)).trans (by exact fz1 _)
       have cE' : w'.cell? ⟨R, 2, none⟩ = some .nilIface := (hb.cell (p := ⟨R, 2, none⟩) (by simp; omega)).trans (by exact cE1 _)))
  all_goals go_end0
  all_goals exact ⟨rfl, fail_fin (y := World.drew (World.drew (World.alloc w _))) (by simp) hRl (((Below.refl _ w).alloc (Nat.le_refl _) _).drew.drew) hb hp cE'⟩
end Go.Proofs.YbulkaahuFmt
