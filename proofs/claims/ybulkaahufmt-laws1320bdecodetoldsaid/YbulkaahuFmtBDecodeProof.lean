/-
  THE PROOF OF THE TOLD AND TIED CARD 'Rows.LawS1320BDecodeToldSaid' ('wire.LawS1320BDecode'). What fmt writes is told (any text); the new error wraps the sentinel, whatever the text.
-/
import Derived.Test.YbulkaahuFmtCards
import Derived.Test.YbulkaahuFmtTie
import Derived.Test.YbulkaahuFmtBLaid
import Derived.Test.YbulkaahuFmtBDecode
import Derived.WalkKit
import Derived.ProofKit
import Derived.OpenShut
import Derived.ShutString
import Derived.ChangeOld
import Derived.Below
import Derived.SevenTiedAt
namespace Go.Proofs.YbulkaahuFmt.lawS1320BDecode
open Go.ChangeShapes Go.WideShapes Go.ChangeAt Go.RowKit
open Go.Extern.Stop Go.Stop Go.Extern

theorem own : ownKnob Ybaf.prog.godebug = none := by kernel_rfl
theorem laidOut : laidOutB Ybaf.prog = true := by kernel_rfl
theorem cells5 : Ybaf.prog.cellsOf 5 = 1 := by kernel_rfl

/-- THE ARGUMENT 'data', OPENED. -/
theorem open_data {H : Type} {enc : TypeId × Value → H} {W : World} {a0 : Option Addr} {len cap fuel : Nat} {y : DataW H × List MemPlace}
    (hf : DataW.trod enc Ybaf.prog W 0 (fun _ => true) true fuel 44 [.slice a0 len cap] = some y) :
    ∃ d : Nat → Int, (∀ i, 0 ≤ d i) ∧ (∀ i, d i ≤ 255) ∧ (0 < len → ∃ b off, a0 = some ⟨b, off, none⟩ ∧ ∀ i, i < len → W.cell? ⟨b, off + i, none⟩ = some (.int .u8 (d i))) := by
  rcases open_ints Ybaf.underlying44 Ybaf.underlying5 cells5 hf with ⟨hcs, _⟩ | ⟨a, l, c, zs, hcs, _, hl, hm, hzl, _, hcell, hwz⟩
  · simp at hcs
    obtain ⟨_, rfl, _⟩ := hcs
    exact ⟨fun _ => 0, fun _ => Int.le_refl 0, fun _ => (by decide : (0 : Int) ≤ 255), fun h => absurd h (by omega)⟩
  · simp at hcs
    obtain ⟨rfl, rfl, rfl⟩ := hcs
    simp at hzl
    have bd : ∀ i, 0 ≤ zs.getD i 0 ∧ zs.getD i 0 ≤ 255 := fun i => by
      by_cases hi : i < zs.length
      · have hmem : zs.getD i 0 ∈ zs := by rw [List.getD_eq_getElem?_getD, List.getElem?_eq_getElem hi]; exact List.getElem_mem hi
        exact bounds_u8 (hwz _ hmem)
      · have e : zs.getD i 0 = 0 := by rw [List.getD_eq_getElem?_getD, List.getElem?_eq_none (by omega)]; rfl
        rw [e]; exact ⟨by decide, by decide⟩
    refine ⟨fun i => zs.getD i 0, fun i => (bd i).1, fun i => (bd i).2, fun hpos => ?_⟩
    obtain ⟨b, o, spot⟩ := a
    have hspot : spot = none := by simpa [Addr.add] using World.cell?_spot (hcell 0 (by omega))
    subst hspot
    refine ⟨b, o, rfl, fun i hi => ?_⟩
    rw [← add_plain]; exact hcell i (by omega)

theorem walk {H : Type} {enc : TypeId × Value → H} (F : Interp) (a0 : Option Addr) (len0 cap0 : Nat) (n : Int) (f : Bool) (ea : Addr) (es : ByteArray) (w : World) {f0 : Nat} {y0 : DataW H × List MemPlace} (h0 : DataW.trod enc Ybaf.prog w 0 (fun _ => true) true f0 44 [.slice a0 len0 cap0] = some y0)
    (hn : (Lit.int .u16 n).wf = true) (hF : F.answers w.tape) (hg : w.cell? ⟨0, 0, none⟩ = some (.iface 83 (.pointer (some ea)))) (hs : w.cell? ea = some (.string es)) :
    Calls Ybaf.prog 5 #[.slice a0 len0 cap0, .int .u16 n, .bool f] w fun e w' => e = .returned (.bool true) ∧ Below w.heap.size w w' := by
  obtain ⟨d, k1, k2, k3⟩ := open_data h0
  by_cases hbig : 1024 < len0
  · exact (dec_many a0 len0 cap0 _ _ w hbig).mono fun e w' ⟨h1, h2⟩ => ⟨h1, by rw [h2]; exact Below.refl _ _⟩
  · obtain ⟨b1, b2⟩ := bounds_u16 hn
    obtain ⟨m, rfl⟩ : ∃ m : Nat, n = (m : Int) := ⟨n.toNat, by omega⟩
    exact dec_main F d a0 len0 cap0 m f ea es w (by omega) (by omega) k1 k2 k3 hF hg hs

set_option maxRecDepth 100000 in
/-- One start that fits. -/
theorem witness (os : Os) (H : Type) (enc : TypeId × Value → H) : ∃ w0 : World, w0.os = os ∧ (w0.forCall (fun _ _ => 0) ⟨#[], #[.slice none 0 0, .int .u16 0, .bool false], []⟩).variablesB Ybaf.prog = true ∧
    ((w0.forCall (fun _ _ => 0) ⟨#[], #[.slice none 0 0, .int .u16 0, .bool false], []⟩).heap.toList.drop Ybaf.prog.globals.size).take ((begin Ybaf.prog (fun _ _ => 0) default).world.heap.size - Ybaf.prog.globals.size) = (begin Ybaf.prog (fun _ _ => 0) default).world.heap.toList.drop Ybaf.prog.globals.size ∧
    Input.okWideB Ybaf.prog (w0.forCall (fun _ _ => 0) ⟨#[], #[.slice none 0 0, .int .u16 0, .bool false], []⟩) 5 ⟨#[], #[.slice none 0 0, .int .u16 0, .bool false], []⟩ = true ∧
    (OpenSpec.ofChange Rows.lawS1320BDecodeSpec).preRow enc Ybaf.prog Ybaf.f5 [] false Rows.lawS1320BDecodeRow.laid (w0.forCall (fun _ _ => 0) ⟨#[], #[.slice none 0 0, .int .u16 0, .bool false], []⟩).memory #[.slice none 0 0, .int .u16 0, .bool false] := by
  obtain ⟨w0, rfl, hm⟩ := laid_world os #[.slice none 0 0, .int .u16 0, .bool false]
  exact ⟨_, rfl, by kernel_rfl, by kernel_rfl, by kernel_rfl, OpenSpec.preRow_of_B rfl 8 (by kernel_rfl) (by kernel_rfl) hm⟩

set_option maxRecDepth 100000 in
theorem lifted (os : Os) (started : os.Started) (H : Type) (enc : TypeId × Value → H) :
    ReturnsInTold none {} Ybaf.checked os 5 .any Input.okWide ((OpenSpec.ofChange Rows.lawS1320BDecodeSpec).preRow enc Ybaf.prog Ybaf.f5 [] false Rows.lawS1320BDecodeRow.laid)
      (fun F => ((OpenSpec.ofChange Rows.lawS1320BDecodeSpec).at F).post enc Ybaf.prog Ybaf.f5 false true false false) (aloneAtReturn Ybaf.prog) nothingAlways := by
  obtain ⟨w0, e1, e2, e3, e4, e5⟩ := witness os H enc
  refine returnsInTold_of_row (C := Ybaf.checked) (s := OpenSpec.ofChange Rows.lawS1320BDecodeSpec) (by kernel_rfl) own started (by kernel_rfl) Ybaf.func5
    (OpenSpec.witness_stopped_at (enc := enc) (C := Ybaf.checked) false w0 #[.slice none 0 0, .int .u16 0, .bool false] e1 e2 e3 e4 e5) ?_
  intro F W base args ds gs before _ hF hval0 hW _ _ hsz hL _
  have hval : ∀ (j : Nat) t v, Ybaf.f5.params[j]? = some t → args[j]? = some v → Value.okWide Ybaf.prog W .any base t v := hval0
  have hW' := hW
  obtain ⟨p, q, hA0, hV0, rfl, hfz, hnd⟩ := hW
  have hA : DataW.TrodAll enc Ybaf.prog W 0 (fun _ => true) true Ybaf.f5.params.toList args.toList ds p := hA0
  have hV : DataW.TrodVars enc Ybaf.prog W (fun _ => true) [vn] gs q := hV0
  rw [Ybaf.params5] at hA hval
  obtain ⟨v0, vs0, d0, ds0, p0, q0, hargs, rfl, rfl, h0, r0⟩ := trodAll_cons hA
  obtain ⟨v1, vs1, d1, ds1, p1, q1, rfl, rfl, rfl, h1, r1⟩ := trodAll_cons r0
  obtain ⟨v2, vs2, d2, ds2, p2, q2, rfl, rfl, rfl, h2, r2⟩ := trodAll_cons r1
  obtain ⟨rfl, rfl, rfl⟩ := trodAll_nil r2
  obtain rfl : args = #[v0, v1, v2] := by cases args; simp_all
  obtain ⟨ea, es, hv1, hc1, hz1⟩ := laid_gives hL
  obtain ⟨rfl, rfl⟩ := hV.unique (vars_read1 enc gErr gErrType Ybaf.underlying39 hv1 trivial _)
  obtain ⟨a0, len0, cap0, rfl⟩ := okWide_slice Ybaf.underlying44 (hval 0 44 v0 rfl rfl)
  obtain ⟨n, rfl, rfl, rfl, w1⟩ := open_int Ybaf.underlying45 (hval 1 45 v1 rfl rfl) h1
  obtain ⟨f, rfl, rfl, rfl⟩ := open_bool Ybaf.underlying4 (hval 2 4 v2 rfl rfl) h2
  have hg1 : W.cell? ⟨0, 0, none⟩ = some (.iface 83 (.pointer (some ea))) := by simpa using World.var?_cell gErr hv1 0
  have h0lt : 0 < W.heap.size := block_lt_of_cell hg1
  have k0 := h0
  have lt0 : ∀ x ∈ p0, x.block < W.heap.size := by obtain ⟨m, hm⟩ := k0; exact DataW.trod_lt m _ _ _ hm
  obtain ⟨f0, t0⟩ := h0
  clear hA0 hval0 hV0
  refine (walk F.told a0 len0 cap0 n f ea es W (by simpa [Value.cells] using t0) w1 hF hg1 hc1).mono fun e W' ⟨he, bel⟩ => ?_
  subst he
  exact ⟨_, rfl, _, _, _, [], _, [.cell 0 0], hW', trodAll_mk1 (shut_bool Ybaf.underlying4 _), (trodAll_cons_mk (Below.trod laidOut (by kernel_rfl) (of_decide_eq_true (by kernel_rfl)) k0 bel lt0) (trodAll_cons_mk (shut_int Ybaf.underlying45 w1) (trodAll_cons_mk (shut_bool Ybaf.underlying4 _) trodAll_mk0))), vars_read1 enc gErr gErrType Ybaf.underlying39 (var?_below bel gErr h0lt hv1) trivial _, bel.frame _, fun h => by cases h⟩

theorem laidOut' : laidOutB Ybaf.pinned.checked.prog = true := by kernel_rfl
theorem stops : Ybaf.pinned.checked.prog.stops = ["fmt.errorf", "fmt.Sprintf"] := by kernel_rfl
theorem stopKnobs : Ybaf.pinned.checked.prog.stopKnobs = [] := by kernel_rfl
theorem quiet (os : Os) : Stop.quiet Ybaf.pinned.checked.prog os := by
  intro k hk
  rw [stopKnobs] at hk
  cases hk

/-- THE STATEMENT -/
theorem proved : Rows.LawS1320BDecodeToldSaid :=
  Claim7.holds_of_told_tied_any_at .later 5 Ybaf.f5 "fmt.errorf" ["fmt.Sprintf"] [] _ _ _ _ _ (by kernel_rfl) rfl rfl rfl laidOut' (by kernel_rfl) rfl ⟨rfl, rfl, rfl, rfl, rfl, rfl, rfl⟩ rfl rfl (by kernel_rfl) (by kernel_rfl) Ybaf.func5 (by kernel_rfl)
    (of_decide_eq_true (by kernel_rfl)) (by unfold Func.isWrapper; first | (rw [if_pos (by decide +kernel)]; kernel_rfl) | (rw [if_neg (by decide +kernel)]; exact ⟨rfl, rfl⟩)) stops.symm rfl stopKnobs.symm (by kernel_rfl)
    (by kernel_rfl) (by kernel_rfl) (by kernel_rfl) (by kernel_rfl) (by kernel_rfl) (by kernel_rfl) (by kernel_rfl) (by kernel_rfl) (by kernel_rfl) rfl (by kernel_rfl) rfl rfl
    rfl rfl
    rfl (by kernel_rfl) (by kernel_rfl) (by kernel_rfl) (by decide) (by kernel_rfl) lawS1320BDecode_row_tie
    (OpenClaim.moreEntering_of (by kernel_rfl) (by kernel_rfl) (by kernel_rfl) (by kernel_rfl) (by kernel_rfl) (by kernel_rfl) (by kernel_rfl) (by kernel_rfl) (by kernel_rfl) (by kernel_rfl))
    ⟨_, WideRow.started_initial, quiet _⟩
    (fun os started _ H enc _ => lifted os started H enc)
#print axioms proved
end Go.Proofs.YbulkaahuFmt.lawS1320BDecode
