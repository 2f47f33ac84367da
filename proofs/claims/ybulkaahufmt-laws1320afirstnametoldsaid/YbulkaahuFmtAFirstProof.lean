/-
  THE PROOF OF THE TOLD CARD 'Rows.LawS1320AFirstNameToldSaid' ('fleet.LawS1320AFirstName'). The road never comes to fmt (the name that is looked up is stored); the card says 'told' all the same.
-/
import Derived.Test.YbulkaahuFmtCards
import Derived.Test.YbulkaahuFmtAFirst
import Derived.WalkKit
import Derived.ProofKit
import Derived.OpenShut
import Derived.ShutString
import Derived.SliceStrings
import Derived.ChangeOld
import Derived.Below
import Derived.SevenToldRow
namespace Go.Proofs.YbulkaahuFmt.lawS1320AFirstName
open Go.ChangeShapes Go.WideShapes Go.ChangeAt Go.RowKit Go.WideElems
open Go.Extern.Stop Go.Stop Go.Extern

theorem own : ownKnob Ybaf.prog.godebug = none := by kernel_rfl
theorem laidOut : laidOutB Ybaf.prog = true := by kernel_rfl
theorem cells9 : Ybaf.prog.cellsOf 9 = 1 := by kernel_rfl

/-- No name, or more than 1024 of them: true at once. -/
theorem walk_none (a0 : Option Addr) (len cap : Nat) (t : Int) (w : World) (hm : len ≤ maxLen) (h : len = 0 ∨ 1024 < len) :
    Calls Ybaf.prog 4 #[.slice a0 len cap, .int .i64 t] w fun e w' => e = .returned (.bool true) ∧ Below w.heap.size w w' := by
  unfold maxLen at hm
  rcases h with rfl | h
  · go_enter Ybaf.func4, Ybaf.ntmps4
    go_wp2
    go_ret
    exact ⟨rfl, Below.refl _ _⟩
  · have g1 : ((len : Int) == 0) = false := beq_eq_false_iff_ne.2 (by omega)
    have g2 : decide ((1024 : Int) < (len : Int)) = true := decide_eq_true (by omega)
    go_enter Ybaf.func4, Ybaf.ntmps4
    go_wp2
    go_ret
    exact ⟨rfl, Below.refl _ _⟩

/-- THE ARGUMENT 'names', OPENED. -/
theorem open_names {H : Type} {enc : TypeId × Value → H} {W : World} {a0 : Option Addr} {len cap fuel : Nat} {x : DataW H × List MemPlace}
    (hf : DataW.trod enc Ybaf.prog W 0 (fun _ => true) true fuel 22 [.slice a0 len cap] = some x) :
    len ≤ maxLen ∧ ∃ (b o : Nat) (S : Nat → ByteArray), (0 < len → a0 = some ⟨b, o, none⟩) ∧ (0 < len → b < W.heap.size) ∧ (∀ i, i < len → W.cell? ⟨b, o + i, none⟩ = some (.string (S i))) ∧ ∀ i, (S i).size ≤ maxLen := by
  have hz : (ByteArray.empty).size ≤ maxLen := Nat.zero_le _
  rcases open_strings Ybaf.underlying22 Ybaf.underlying9 cells9 hf with ⟨hcs, _⟩ | ⟨a, l, c, zs, hcs, _, hl, hm, hzl, _, hcell, hwz⟩
  · simp at hcs
    obtain ⟨_, rfl, _⟩ := hcs
    exact ⟨Nat.zero_le _, 0, 0, fun _ => ByteArray.empty, fun h => absurd h (by omega), fun h => absurd h (by omega), fun i h => absurd h (by omega), fun _ => hz⟩
  · simp at hcs
    obtain ⟨rfl, rfl, rfl⟩ := hcs
    by_cases h0 : len = 0
    · subst h0
      exact ⟨Nat.zero_le _, 0, 0, fun _ => ByteArray.empty, fun h => absurd h (by omega), fun h => absurd h (by omega), fun i h => absurd h (by omega), fun _ => hz⟩
    simp at hzl
    obtain ⟨b, o, spot⟩ := a
    have hspot : spot = none := by simpa [Addr.add] using World.cell?_spot (hcell 0 (by omega))
    subst hspot
    refine ⟨by omega, b, o, fun i => zs.getD i ByteArray.empty, fun _ => rfl, fun _ => ?_, fun i hi => ?_, fun i => ?_⟩
    · have h := block_lt_of_cell (hcell 0 (by omega)); rw [add_plain] at h; exact h
    · rw [← add_plain]; exact hcell i (by omega)
    · by_cases hi : i < zs.length
      · have hmem : zs.getD i ByteArray.empty ∈ zs := by rw [List.getD_eq_getElem?_getD, List.getElem?_eq_getElem hi]; exact List.getElem_mem hi
        exact hwz _ hmem
      · have e : zs.getD i ByteArray.empty = ByteArray.empty := by rw [List.getD_eq_getElem?_getD, List.getElem?_eq_none (by omega)]; rfl
        show (zs.getD i ByteArray.empty).size ≤ maxLen
        rw [e]; exact hz

theorem walk {H : Type} {enc : TypeId × Value → H} (a0 : Option Addr) (len cap : Nat) (t : Int) (w : World) {f0 : Nat} {x0 : DataW H × List MemPlace} (h0 : DataW.trod enc Ybaf.prog w 0 (fun _ => true) true f0 22 [.slice a0 len cap] = some x0) :
    Calls Ybaf.prog 4 #[.slice a0 len cap, .int .i64 t] w fun e w' => e = .returned (.bool true) ∧ Below w.heap.size w w' := by
  obtain ⟨m1, b, o, S, k1, k2, k3, k4⟩ := open_names h0
  by_cases hz : len = 0 ∨ 1024 < len
  · exact walk_none a0 len cap t w m1 hz
  · have e := k1 (by omega)
    subst e
    exact first_main S b o len cap t w (by omega) (by omega) (k2 (by omega)) k3 k4

set_option maxRecDepth 100000 in
theorem lifted (os : Os) (started : os.Started) (H : Type) (enc : TypeId × Value → H) :
    ReturnsInTold none {} Ybaf.checked os 4 .any Input.okWide ((OpenSpec.ofChange Rows.lawS1320AFirstNameSpec).preRow enc Ybaf.prog Ybaf.f4 [] false [])
      (fun F => ((OpenSpec.ofChange Rows.lawS1320AFirstNameSpec).at F).post enc Ybaf.prog Ybaf.f4 false true false false) (aloneAtReturn Ybaf.prog) nothingAlways := by
  refine returnsInTold_of_row (C := Ybaf.checked) (s := OpenSpec.ofChange Rows.lawS1320AFirstNameSpec) (by kernel_rfl) own started (by kernel_rfl) Ybaf.func4
    (OpenSpec.witness_stopped (enc := enc) (C := Ybaf.checked) false ⟨#[], #[.slice none 0 0, .int .i64 0], []⟩ 8 (by kernel_rfl) (by kernel_rfl) (by kernel_rfl) (by kernel_rfl)) ?_
  intro F W base args ds gs before _ hF hval0 hW _ _ hsz _ _
  have hval : ∀ (j : Nat) t v, Ybaf.f4.params[j]? = some t → args[j]? = some v → Value.okWide Ybaf.prog W .any base t v := hval0
  have hW' := hW
  obtain ⟨p, q, hA0, hV, rfl, hfz, hnd⟩ := hW
  have hA : DataW.TrodAll enc Ybaf.prog W 0 (fun _ => true) true Ybaf.f4.params.toList args.toList ds p := hA0
  rw [Ybaf.params4] at hA hval
  obtain ⟨v0, vs0, d0, ds0, p0, q0, hargs, rfl, rfl, h0, r0⟩ := trodAll_cons hA
  obtain ⟨v1, vs1, d1, ds1, p1, q1, rfl, rfl, rfl, h1, r1⟩ := trodAll_cons r0
  obtain ⟨rfl, rfl, rfl⟩ := trodAll_nil r1
  obtain rfl : args = #[v0, v1] := by cases args; simp_all
  obtain ⟨rfl, rfl⟩ := trodVars_none hV
  obtain ⟨a0, len0, cap0, rfl⟩ := okWide_slice Ybaf.underlying22 (hval 0 22 v0 rfl rfl)
  obtain ⟨t, rfl, rfl, rfl, w1⟩ := open_int Ybaf.underlying3 (hval 1 3 v1 rfl rfl) h1
  have k0 := h0
  have lt0 : ∀ x ∈ p0, x.block < W.heap.size := by obtain ⟨m, hm⟩ := k0; exact DataW.trod_lt m _ _ _ hm
  obtain ⟨f0, t0⟩ := h0
  clear hA0 hval0
  refine (walk a0 len0 cap0 t W (by simpa [Value.cells] using t0)).mono fun e W' ⟨he, bel⟩ => ?_
  subst he
  exact ⟨_, rfl, _, _, _, [], _, [], hW', trodAll_mk1 (shut_bool Ybaf.underlying4 _), (trodAll_cons_mk (Below.trod laidOut (by kernel_rfl) (of_decide_eq_true (by kernel_rfl)) k0 bel lt0) (trodAll_cons_mk (shut_int Ybaf.underlying3 w1) trodAll_mk0)), rfl, bel.frame _, fun h => by cases h⟩

theorem laidOut' : laidOutB Ybaf.pinned.checked.prog = true := by kernel_rfl
theorem stops : Ybaf.pinned.checked.prog.stops = ["fmt.errorf", "fmt.Sprintf"] := by kernel_rfl
theorem stopKnobs : Ybaf.pinned.checked.prog.stopKnobs = [] := by kernel_rfl
theorem quiet (os : Os) : Stop.quiet Ybaf.pinned.checked.prog os := by
  intro k hk
  rw [stopKnobs] at hk
  cases hk

/-- THE STATEMENT -/
theorem proved : Rows.LawS1320AFirstNameToldSaid :=
  Claim7.holds_of_told_any 4 Ybaf.f4 "fmt.errorf" ["fmt.Sprintf"] [] _ _ _ (by kernel_rfl) rfl rfl rfl laidOut' (by kernel_rfl) rfl ⟨rfl, rfl, rfl, rfl, rfl, rfl, rfl⟩ rfl rfl (by kernel_rfl) (by kernel_rfl) Ybaf.func4 (by kernel_rfl)
    (of_decide_eq_true (by kernel_rfl)) (by unfold Func.isWrapper; first | (rw [if_pos (by decide +kernel)]; kernel_rfl) | (rw [if_neg (by decide +kernel)]; exact ⟨rfl, rfl⟩)) stops.symm rfl stopKnobs.symm (by kernel_rfl)
    (by kernel_rfl) (by kernel_rfl) (by kernel_rfl) (by kernel_rfl) (by kernel_rfl) (by kernel_rfl) (by kernel_rfl) (by kernel_rfl) (by kernel_rfl) rfl (by kernel_rfl) rfl rfl
    rfl rfl
    rfl (by kernel_rfl) (by kernel_rfl) (by kernel_rfl) (by decide) (by kernel_rfl)
    (OpenClaim.moreEntering_of (by kernel_rfl) (by kernel_rfl) (by kernel_rfl) (by kernel_rfl) (by kernel_rfl) (by kernel_rfl) (by kernel_rfl) (by kernel_rfl) (by kernel_rfl) (by kernel_rfl))
    ⟨_, WideRow.started_initial, quiet _⟩
    (fun os started _ H enc _ => lifted os started H enc)
#print axioms proved
end Go.Proofs.YbulkaahuFmt.lawS1320AFirstName
