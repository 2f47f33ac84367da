/-
  THE PROOF OF THE TOLD CARD 'Rows.LawS1320ALookupToldSaid' ('fleet.LawS1320ALookup'). Where the name is not stored the road comes to fmt.Errorf: its text is told by the authors' own function; the law asks of the error only that it is not nil.
-/
import Derived.Test.YbulkaahuFmtCards
import Derived.Test.YbulkaahuFmtALookup
import Derived.WalkKit
import Derived.ProofKit
import Derived.OpenShut
import Derived.ShutString
import Derived.SliceStrings
import Derived.ChangeOld
import Derived.Below
import Derived.SevenToldRow
namespace Go.Proofs.YbulkaahuFmt.lawS1320ALookup
open Go.ChangeShapes Go.WideShapes Go.ChangeAt Go.RowKit Go.WideElems
open Go.Extern.Stop Go.Stop Go.Extern
open Go.ChangeMaps (open_string shut_string)

theorem own : ownKnob Ybaf.prog.godebug = none := by kernel_rfl
theorem laidOut : laidOutB Ybaf.prog = true := by kernel_rfl
theorem cells9 : Ybaf.prog.cellsOf 9 = 1 := by kernel_rfl
theorem cells3 : Ybaf.prog.cellsOf 3 = 1 := by kernel_rfl

/-- THE ARGUMENT 'names', OPENED. -/
theorem open_names {H : Type} {enc : TypeId × Value → H} {W : World} {a0 : Option Addr} {len cap fuel : Nat} {x : DataW H × List MemPlace}
    (hf : DataW.trod enc Ybaf.prog W 0 (fun _ => true) true fuel 22 [.slice a0 len cap] = some x) :
    len ≤ maxLen ∧ ∃ (b o : Nat) (S : Nat → ByteArray), (0 < len → a0 = some ⟨b, o, none⟩) ∧ (0 < len → b < W.heap.size) ∧ (∀ i, i < len → W.cell? ⟨b, o + i, none⟩ = some (.string (S i))) ∧ ∀ i, (S i).size ≤ maxLen := by
  have hz : (ByteArray.empty).size ≤ maxLen := Nat.zero_le _
  rcases open_strings Ybaf.underlying22 Ybaf.underlying9 cells9 hf with ⟨hcs, _⟩ | ⟨a, l, c, zs, hcs, _, hl, hm, hzl, _, hcell, hwz⟩
  · simp at hcs
    obtain ⟨_, rfl, _⟩ := hcs
    exact ⟨Nat.zero_le _, 0, 0, fun _ => ByteArray.empty, fun h => absurd h (by omega), fun h => absurd h (by omega), fun i h => absurd h (by omega), fun _ => hz⟩
  · simp at hcs
    obtain ⟨rfl, rfl, rfl⟩ := hcs
    by_cases h0 : len = 0
    · subst h0
      exact ⟨Nat.zero_le _, 0, 0, fun _ => ByteArray.empty, fun h => absurd h (by omega), fun h => absurd h (by omega), fun i h => absurd h (by omega), fun _ => hz⟩
    simp at hzl
    obtain ⟨b, o, spot⟩ := a
    have hspot : spot = none := by simpa [Addr.add] using World.cell?_spot (hcell 0 (by omega))
    subst hspot
    refine ⟨by omega, b, o, fun i => zs.getD i ByteArray.empty, fun _ => rfl, fun _ => ?_, fun i hi => ?_, fun i => ?_⟩
    · have h := block_lt_of_cell (hcell 0 (by omega)); rw [add_plain] at h; exact h
    · rw [← add_plain]; exact hcell i (by omega)
    · by_cases hi : i < zs.length
      · have hmem : zs.getD i ByteArray.empty ∈ zs := by rw [List.getD_eq_getElem?_getD, List.getElem?_eq_getElem hi]; exact List.getElem_mem hi
        exact hwz _ hmem
      · have e : zs.getD i ByteArray.empty = ByteArray.empty := by rw [List.getD_eq_getElem?_getD, List.getElem?_eq_none (by omega)]; rfl
        show (zs.getD i ByteArray.empty).size ≤ maxLen
        rw [e]; exact hz

/-- THE ARGUMENT 'tiers', OPENED. -/
theorem open_tiers {H : Type} {enc : TypeId × Value → H} {W : World} {a0 : Option Addr} {len cap fuel : Nat} {x : DataW H × List MemPlace}
    (hf : DataW.trod enc Ybaf.prog W 0 (fun _ => true) true fuel 23 [.slice a0 len cap] = some x) :
    len ≤ maxLen ∧ ∃ (b o : Nat) (T : Nat → Int), (0 < len → a0 = some ⟨b, o, none⟩) ∧ (0 < len → b < W.heap.size) ∧ (∀ i, i < len → W.cell? ⟨b, o + i, none⟩ = some (.int .i64 (T i))) := by
  rcases open_ints Ybaf.underlying23 Ybaf.underlying3 cells3 hf with ⟨hcs, _⟩ | ⟨a, l, c, zs, hcs, _, hl, hm, hzl, _, hcell, hwz⟩
  · simp at hcs
    obtain ⟨_, rfl, _⟩ := hcs
    exact ⟨Nat.zero_le _, 0, 0, fun _ => 0, fun h => absurd h (by omega), fun h => absurd h (by omega), fun i h => absurd h (by omega)⟩
  · simp at hcs
    obtain ⟨rfl, rfl, rfl⟩ := hcs
    by_cases h0 : len = 0
    · subst h0
      exact ⟨Nat.zero_le _, 0, 0, fun _ => 0, fun h => absurd h (by omega), fun h => absurd h (by omega), fun i h => absurd h (by omega)⟩
    simp at hzl
    obtain ⟨b, o, spot⟩ := a
    have hspot : spot = none := by simpa [Addr.add] using World.cell?_spot (hcell 0 (by omega))
    subst hspot
    refine ⟨by omega, b, o, fun i => zs.getD i 0, fun _ => rfl, fun _ => ?_, fun i hi => ?_⟩
    · have h := block_lt_of_cell (hcell 0 (by omega)); rw [add_plain] at h; exact h
    · rw [← add_plain]; exact hcell i (by omega)

theorem walk {H : Type} {enc : TypeId × Value → H} (F : Interp) (a0 a1 : Option Addr) (len0 cap0 len1 cap1 : Nat) (q : ByteArray) (w : World) (hF : F.answers w.tape) (hq : q.size ≤ maxLen) {f0 f1 : Nat} {x0 x1 : DataW H × List MemPlace}
    (h0 : DataW.trod enc Ybaf.prog w 0 (fun _ => true) true f0 22 [.slice a0 len0 cap0] = some x0) (h1 : DataW.trod enc Ybaf.prog w 0 (fun _ => true) true f1 23 [.slice a1 len1 cap1] = some x1) :
    Calls Ybaf.prog 3 #[.slice a0 len0 cap0, .slice a1 len1 cap1, .string q] w fun e w' => e = .returned (.bool true) ∧ Below w.heap.size w w' := by
  obtain ⟨m1, b, o, S, k1, k2, k3, k4⟩ := open_names h0
  obtain ⟨m2, tb, to, T, k5, k6, k7⟩ := open_tiers h1
  by_cases hbig : 1024 < len0 ∨ 1024 < len1
  · exact lookup_many a0 a1 len0 cap0 len1 cap1 q w m1 m2 hbig
  · by_cases hz : len0 = 0
    · subst hz
      exact lookup_zero F a0 cap0 a1 len1 cap1 q w hF hq (by omega)
    · have e := k1 (by omega)
      subst e
      exact lookup_main F S b o len0 cap0 T a1 tb to len1 cap1 q w hF (by omega) (by omega) (k2 (by omega)) k3 k4 hq (by omega) k5 k6 k7

set_option maxRecDepth 100000 in
theorem lifted (os : Os) (started : os.Started) (H : Type) (enc : TypeId × Value → H) :
    ReturnsInTold none {} Ybaf.checked os 3 .any Input.okWide ((OpenSpec.ofChange Rows.lawS1320ALookupSpec).preRow enc Ybaf.prog Ybaf.f3 [] false [])
      (fun F => ((OpenSpec.ofChange Rows.lawS1320ALookupSpec).at F).post enc Ybaf.prog Ybaf.f3 false true false false) (aloneAtReturn Ybaf.prog) nothingAlways := by
  refine returnsInTold_of_row (C := Ybaf.checked) (s := OpenSpec.ofChange Rows.lawS1320ALookupSpec) (by kernel_rfl) own started (by kernel_rfl) Ybaf.func3
    (OpenSpec.witness_stopped (enc := enc) (C := Ybaf.checked) false ⟨#[], #[.slice none 0 0, .slice none 0 0, .string ⟨#[]⟩], []⟩ 8 (by kernel_rfl) (by kernel_rfl) (by kernel_rfl) (by kernel_rfl)) ?_
  intro F W base args ds gs before _ hF hval0 hW _ _ hsz _ _
  have hval : ∀ (j : Nat) t v, Ybaf.f3.params[j]? = some t → args[j]? = some v → Value.okWide Ybaf.prog W .any base t v := hval0
  have hW' := hW
  obtain ⟨p, q, hA0, hV, rfl, hfz, hnd⟩ := hW
  have hA : DataW.TrodAll enc Ybaf.prog W 0 (fun _ => true) true Ybaf.f3.params.toList args.toList ds p := hA0
  rw [Ybaf.params3] at hA hval
  obtain ⟨v0, vs0, d0, ds0, p0, q0, hargs, rfl, rfl, h0, r0⟩ := trodAll_cons hA
  obtain ⟨v1, vs1, d1, ds1, p1, q1, rfl, rfl, rfl, h1, r1⟩ := trodAll_cons r0
  obtain ⟨v2, vs2, d2, ds2, p2, q2, rfl, rfl, rfl, h2, r2⟩ := trodAll_cons r1
  obtain ⟨rfl, rfl, rfl⟩ := trodAll_nil r2
  obtain rfl : args = #[v0, v1, v2] := by cases args; simp_all
  obtain ⟨rfl, rfl⟩ := trodVars_none hV
  obtain ⟨a0, len0, cap0, rfl⟩ := okWide_slice Ybaf.underlying22 (hval 0 22 v0 rfl rfl)
  obtain ⟨a1, len1, cap1, rfl⟩ := okWide_slice Ybaf.underlying23 (hval 1 23 v1 rfl rfl)
  obtain ⟨s, rfl, rfl, rfl, w2⟩ := open_string Ybaf.underlying9 (hval 2 9 v2 rfl rfl) h2
  have k0 := h0
  have k1 := h1
  have lt0 : ∀ x ∈ p0, x.block < W.heap.size := by obtain ⟨m, hm⟩ := k0; exact DataW.trod_lt m _ _ _ hm
  have lt1 : ∀ x ∈ p1, x.block < W.heap.size := by obtain ⟨m, hm⟩ := k1; exact DataW.trod_lt m _ _ _ hm
  obtain ⟨f0, t0⟩ := h0
  obtain ⟨f1, t1⟩ := h1
  clear hA0 hval0
  refine (walk F.told a0 a1 len0 cap0 len1 cap1 s W hF w2 (by simpa [Value.cells] using t0) (by simpa [Value.cells] using t1)).mono fun e W' ⟨he, bel⟩ => ?_
  subst he
  exact ⟨_, rfl, _, _, _, [], _, [], hW', trodAll_mk1 (shut_bool Ybaf.underlying4 _), (trodAll_cons_mk (Below.trod laidOut (by kernel_rfl) (of_decide_eq_true (by kernel_rfl)) k0 bel lt0) (trodAll_cons_mk (Below.trod laidOut (by kernel_rfl) (of_decide_eq_true (by kernel_rfl)) k1 bel lt1) (trodAll_cons_mk (shut_string Ybaf.underlying9 w2) trodAll_mk0))), rfl, bel.frame _, fun h => by cases h⟩

theorem laidOut' : laidOutB Ybaf.pinned.checked.prog = true := by kernel_rfl
theorem stops : Ybaf.pinned.checked.prog.stops = ["fmt.errorf", "fmt.Sprintf"] := by kernel_rfl
theorem stopKnobs : Ybaf.pinned.checked.prog.stopKnobs = [] := by kernel_rfl
theorem quiet (os : Os) : Stop.quiet Ybaf.pinned.checked.prog os := by
  intro k hk
  rw [stopKnobs] at hk
  cases hk

/-- THE STATEMENT -/
theorem proved : Rows.LawS1320ALookupToldSaid :=
  Claim7.holds_of_told_any 3 Ybaf.f3 "fmt.errorf" ["fmt.Sprintf"] [] _ _ _ (by kernel_rfl) rfl rfl rfl laidOut' (by kernel_rfl) rfl ⟨rfl, rfl, rfl, rfl, rfl, rfl, rfl⟩ rfl rfl (by kernel_rfl) (by kernel_rfl) Ybaf.func3 (by kernel_rfl)
    (of_decide_eq_true (by kernel_rfl)) (by unfold Func.isWrapper; first | (rw [if_pos (by decide +kernel)]; kernel_rfl) | (rw [if_neg (by decide +kernel)]; exact ⟨rfl, rfl⟩)) stops.symm rfl stopKnobs.symm (by kernel_rfl)
    (by kernel_rfl) (by kernel_rfl) (by kernel_rfl) (by kernel_rfl) (by kernel_rfl) (by kernel_rfl) (by kernel_rfl) (by kernel_rfl) (by kernel_rfl) rfl (by kernel_rfl) rfl rfl
    rfl rfl
    rfl (by kernel_rfl) (by kernel_rfl) (by kernel_rfl) (by decide) (by kernel_rfl)
    (OpenClaim.moreEntering_of (by kernel_rfl) (by kernel_rfl) (by kernel_rfl) (by kernel_rfl) (by kernel_rfl) (by kernel_rfl) (by kernel_rfl) (by kernel_rfl) (by kernel_rfl) (by kernel_rfl))
    ⟨_, WideRow.started_initial, quiet _⟩
    (fun os started _ H enc _ => lifted os started H enc)
#print axioms proved
end Go.Proofs.YbulkaahuFmt.lawS1320ALookup
