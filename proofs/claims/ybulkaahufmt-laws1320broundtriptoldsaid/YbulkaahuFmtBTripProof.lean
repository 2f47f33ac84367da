/-
  THE PROOF OF THE TOLD AND TIED CARD 'Rows.LawS1320BRoundTripToldSaid' ('wire.LawS1320BRoundTrip'). The road names the sentinel (through Fail) and fmt, and comes to neither: every number is read back.
-/
import Derived.Test.YbulkaahuFmtCards
import Derived.Test.YbulkaahuFmtTie
import Derived.Test.YbulkaahuFmtBLaid
import Derived.Test.YbulkaahuFmtBTrip
import Derived.WalkKit
import Derived.ProofKit
import Derived.OpenShut
import Derived.ShutString
import Derived.ChangeOld
import Derived.Below
import Derived.SevenTiedAt
namespace Go.Proofs.YbulkaahuFmt.lawS1320BRoundTrip
open Go.ChangeShapes Go.WideShapes Go.ChangeAt Go.RowKit
open Go.Extern.Stop Go.Stop Go.Extern

theorem own : ownKnob Ybaf.prog.godebug = none := by kernel_rfl
theorem laidOut : laidOutB Ybaf.prog = true := by kernel_rfl
theorem cells49 : Ybaf.prog.cellsOf 49 = 1 := by kernel_rfl

/-- THE ARGUMENT 'vals', OPENED. -/
theorem open_vals {H : Type} {enc : TypeId × Value → H} {W : World} {a0 : Option Addr} {len cap fuel : Nat} {y : DataW H × List MemPlace}
    (hf : DataW.trod enc Ybaf.prog W 0 (fun _ => true) true fuel 55 [.slice a0 len cap] = some y) :
    len ≤ maxLen ∧ ∃ (b o : Nat) (x : Nat → Nat), (0 < len → a0 = some ⟨b, o, none⟩) ∧ (0 < len → b < W.heap.size) ∧ (∀ i, i < len → W.cell? ⟨b, o + i, none⟩ = some (.int .u64 (x i))) ∧ ∀ i, x i < 18446744073709551616 := by
  rcases open_ints Ybaf.underlying55 Ybaf.underlying49 cells49 hf with ⟨hcs, _⟩ | ⟨a, l, c, zs, hcs, _, hl, hm, hzl, _, hcell, hwz⟩
  · simp at hcs
    obtain ⟨_, rfl, _⟩ := hcs
    exact ⟨Nat.zero_le _, 0, 0, fun _ => 0, fun h => absurd h (by omega), fun h => absurd h (by omega), fun i h => absurd h (by omega), fun _ => Nat.zero_lt_of_lt (show 0 < 18446744073709551616 by decide)⟩
  · simp at hcs
    obtain ⟨rfl, rfl, rfl⟩ := hcs
    by_cases h0 : len = 0
    · subst h0
      exact ⟨Nat.zero_le _, 0, 0, fun _ => 0, fun h => absurd h (by omega), fun h => absurd h (by omega), fun i h => absurd h (by omega), fun _ => Nat.zero_lt_of_lt (show 0 < 18446744073709551616 by decide)⟩
    simp at hzl
    obtain ⟨b, o, spot⟩ := a
    have hspot : spot = none := by simpa [Addr.add] using World.cell?_spot (hcell 0 (by omega))
    subst hspot
    have bd : ∀ i, 0 ≤ zs.getD i 0 ∧ zs.getD i 0 ≤ 18446744073709551615 := fun i => by
      by_cases hi : i < zs.length
      · have hmem : zs.getD i 0 ∈ zs := by rw [List.getD_eq_getElem?_getD, List.getElem?_eq_getElem hi]; exact List.getElem_mem hi
        exact bounds_u64 (hwz _ hmem)
      · have e : zs.getD i 0 = 0 := by rw [List.getD_eq_getElem?_getD, List.getElem?_eq_none (by omega)]; rfl
        rw [e]; exact ⟨by decide, by decide⟩
    refine ⟨by omega, b, o, fun i => (zs.getD i 0).toNat, fun _ => rfl, fun _ => ?_, fun i hi => ?_, fun i => ?_⟩
    · have h := block_lt_of_cell (hcell 0 (by omega)); rw [add_plain] at h; exact h
    · have e : (((zs.getD i 0).toNat : Nat) : Int) = zs.getD i 0 := by have := bd i; omega
      rw [← add_plain, e]; exact hcell i (by omega)
    · have := bd i
      show (zs.getD i 0).toNat < 18446744073709551616
      omega

theorem walk {H : Type} {enc : TypeId × Value → H} (a0 : Option Addr) (len0 cap0 : Nat) (w : World) {f0 : Nat} {y0 : DataW H × List MemPlace} (h0 : DataW.trod enc Ybaf.prog w 0 (fun _ => true) true f0 55 [.slice a0 len0 cap0] = some y0) :
    Calls Ybaf.prog 6 #[.slice a0 len0 cap0] w fun e w' => e = .returned (.bool true) ∧ Below w.heap.size w w' := by
  obtain ⟨m1, b, o, x, k1, k2, k3, k4⟩ := open_vals h0
  by_cases hbig : 256 < len0
  · exact trip_many a0 len0 cap0 w m1 hbig
  · by_cases hz : len0 = 0
    · subst hz
      exact trip_zero a0 cap0 w
    · have e := k1 (by omega)
      subst e
      exact trip_main x b o len0 cap0 w (by omega) (by omega) (k2 (by omega)) k4 k3

set_option maxRecDepth 100000 in
/-- One start that fits. -/
theorem witness (os : Os) (H : Type) (enc : TypeId × Value → H) : ∃ w0 : World, w0.os = os ∧ (w0.forCall (fun _ _ => 0) ⟨#[], #[.slice none 0 0], []⟩).variablesB Ybaf.prog = true ∧
    ((w0.forCall (fun _ _ => 0) ⟨#[], #[.slice none 0 0], []⟩).heap.toList.drop Ybaf.prog.globals.size).take ((begin Ybaf.prog (fun _ _ => 0) default).world.heap.size - Ybaf.prog.globals.size) = (begin Ybaf.prog (fun _ _ => 0) default).world.heap.toList.drop Ybaf.prog.globals.size ∧
    Input.okWideB Ybaf.prog (w0.forCall (fun _ _ => 0) ⟨#[], #[.slice none 0 0], []⟩) 6 ⟨#[], #[.slice none 0 0], []⟩ = true ∧
    (OpenSpec.ofChange Rows.lawS1320BRoundTripSpec).preRow enc Ybaf.prog Ybaf.f6 [] false Rows.lawS1320BRoundTripRow.laid (w0.forCall (fun _ _ => 0) ⟨#[], #[.slice none 0 0], []⟩).memory #[.slice none 0 0] := by
  obtain ⟨w0, rfl, hm⟩ := laid_world os #[.slice none 0 0]
  exact ⟨_, rfl, by kernel_rfl, by kernel_rfl, by kernel_rfl, OpenSpec.preRow_of_B rfl 8 (by kernel_rfl) (by kernel_rfl) hm⟩

set_option maxRecDepth 100000 in
theorem lifted (os : Os) (started : os.Started) (H : Type) (enc : TypeId × Value → H) :
    ReturnsInTold none {} Ybaf.checked os 6 .any Input.okWide ((OpenSpec.ofChange Rows.lawS1320BRoundTripSpec).preRow enc Ybaf.prog Ybaf.f6 [] false Rows.lawS1320BRoundTripRow.laid)
      (fun F => ((OpenSpec.ofChange Rows.lawS1320BRoundTripSpec).at F).post enc Ybaf.prog Ybaf.f6 false true false false) (aloneAtReturn Ybaf.prog) nothingAlways := by
  obtain ⟨w0, e1, e2, e3, e4, e5⟩ := witness os H enc
  refine returnsInTold_of_row (C := Ybaf.checked) (s := OpenSpec.ofChange Rows.lawS1320BRoundTripSpec) (by kernel_rfl) own started (by kernel_rfl) Ybaf.func6
    (OpenSpec.witness_stopped_at (enc := enc) (C := Ybaf.checked) false w0 #[.slice none 0 0] e1 e2 e3 e4 e5) ?_
  intro F W base args ds gs before _ hF hval0 hW _ _ hsz hL _
  have hval : ∀ (j : Nat) t v, Ybaf.f6.params[j]? = some t → args[j]? = some v → Value.okWide Ybaf.prog W .any base t v := hval0
  have hW' := hW
  obtain ⟨p, q, hA0, hV0, rfl, hfz, hnd⟩ := hW
  have hA : DataW.TrodAll enc Ybaf.prog W 0 (fun _ => true) true Ybaf.f6.params.toList args.toList ds p := hA0
  have hV : DataW.TrodVars enc Ybaf.prog W (fun _ => true) [vn] gs q := hV0
  rw [Ybaf.params6] at hA hval
  obtain ⟨v0, vs0, d0, ds0, p0, q0, hargs, rfl, rfl, h0, r0⟩ := trodAll_cons hA
  obtain ⟨rfl, rfl, rfl⟩ := trodAll_nil r0
  obtain rfl : args = #[v0] := by cases args; simp_all
  obtain ⟨ea, es, hv1, hc1, hz1⟩ := laid_gives hL
  obtain ⟨rfl, rfl⟩ := hV.unique (vars_read1 enc gErr gErrType Ybaf.underlying39 hv1 trivial _)
  obtain ⟨a0, len0, cap0, rfl⟩ := okWide_slice Ybaf.underlying55 (hval 0 55 v0 rfl rfl)
  have hg1 : W.cell? ⟨0, 0, none⟩ = some (.iface 83 (.pointer (some ea))) := by simpa using World.var?_cell gErr hv1 0
  have h0lt : 0 < W.heap.size := block_lt_of_cell hg1
  have k0 := h0
  have lt0 : ∀ x ∈ p0, x.block < W.heap.size := by obtain ⟨m, hm⟩ := k0; exact DataW.trod_lt m _ _ _ hm
  obtain ⟨f0, t0⟩ := h0
  clear hA0 hval0 hV0
  refine (walk a0 len0 cap0 W (by simpa [Value.cells] using t0)).mono fun e W' ⟨he, bel⟩ => ?_
  subst he
  exact ⟨_, rfl, _, _, _, [], _, [.cell 0 0], hW', trodAll_mk1 (shut_bool Ybaf.underlying4 _), (trodAll_cons_mk (Below.trod laidOut (by kernel_rfl) (of_decide_eq_true (by kernel_rfl)) k0 bel lt0) trodAll_mk0), vars_read1 enc gErr gErrType Ybaf.underlying39 (var?_below bel gErr h0lt hv1) trivial _, bel.frame _, fun h => by cases h⟩

theorem laidOut' : laidOutB Ybaf.pinned.checked.prog = true := by kernel_rfl
theorem stops : Ybaf.pinned.checked.prog.stops = ["fmt.errorf", "fmt.Sprintf"] := by kernel_rfl
theorem stopKnobs : Ybaf.pinned.checked.prog.stopKnobs = [] := by kernel_rfl
theorem quiet (os : Os) : Stop.quiet Ybaf.pinned.checked.prog os := by
  intro k hk
  rw [stopKnobs] at hk
  cases hk

/-- THE STATEMENT -/
theorem proved : Rows.LawS1320BRoundTripToldSaid :=
  Claim7.holds_of_told_tied_any_at .later 6 Ybaf.f6 "fmt.errorf" ["fmt.Sprintf"] [] _ _ _ _ _ (by kernel_rfl) rfl rfl rfl laidOut' (by kernel_rfl) rfl ⟨rfl, rfl, rfl, rfl, rfl, rfl, rfl⟩ rfl rfl (by kernel_rfl) (by kernel_rfl) Ybaf.func6 (by kernel_rfl)
    (of_decide_eq_true (by kernel_rfl)) (by unfold Func.isWrapper; first | (rw [if_pos (by decide +kernel)]; kernel_rfl) | (rw [if_neg (by decide +kernel)]; exact ⟨rfl, rfl⟩)) stops.symm rfl stopKnobs.symm (by kernel_rfl)
    (by kernel_rfl) (by kernel_rfl) (by kernel_rfl) (by kernel_rfl) (by kernel_rfl) (by kernel_rfl) (by kernel_rfl) (by kernel_rfl) (by kernel_rfl) rfl (by kernel_rfl) rfl rfl
    rfl rfl
    rfl (by kernel_rfl) (by kernel_rfl) (by kernel_rfl) (by decide) (by kernel_rfl) lawS1320BRoundTrip_row_tie
    (OpenClaim.moreEntering_of (by kernel_rfl) (by kernel_rfl) (by kernel_rfl) (by kernel_rfl) (by kernel_rfl) (by kernel_rfl) (by kernel_rfl) (by kernel_rfl) (by kernel_rfl) (by kernel_rfl))
    ⟨_, WideRow.started_initial, quiet _⟩
    (fun os started _ H enc _ => lifted os started H enc)
#print axioms proved
end Go.Proofs.YbulkaahuFmt.lawS1320BRoundTrip
