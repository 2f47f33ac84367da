/-
  THE SHELL OF A PROOF OF 'Rows.LawS1317CMinOfThreeSaid' ('example.com/orrery/orrery/pkg/solver.LawS1317CMinOfThree'), WRITTEN BY PROGRAM (proof-skeleton.mjs, third state) off the guide's own print for that function. Not trusted: Lean checks it.
  THE HOLE IS FILLED (the walk, STEP 1). ALL ELSE IS THE GUIDE's OWN WAY (howto/template/XProofs.lean; Derived/Test/ChunkProofs.lean for 'Below') at this function's number and types: leave it.
-/
import Derived.Test.YbulkaageRows
import Derived.Test.YbulkaageCWalks
import Derived.WalkKit
import Derived.ProofKit
import Derived.OpenShut
import Derived.ShutString
import Derived.ChangeOld
import Derived.Below
import Derived.WalkSmall
import Derived.WalkLawsBesides
import Derived.RegionTactic
namespace Go.Proofs.Ybulkaage.lawS1317CMinOfThree
open Go.ChangeShapes Go.WideShapes Go.ChangeAt Go.RowKit
open Go.ChangeMaps (open_string shut_string)
set_option linter.unusedVariables false

theorem own : ownKnob Yba.prog.godebug = none := by kernel_rfl
theorem laidOut : laidOutB Yba.prog = true := by kernel_rfl

/-- WHAT THE WALK IS TOLD OF A SLICE OF INTEGERS THAT CAME IN: it is nil; or it leads to a row of 'cap' cells, the numbers 'zs' (the first 'len' are its elements, the rest its spare room), each fitting its kind. -/
def IsRow (k : IntKind) (w : World) (a : Option Addr) (len cap : Nat) (zs : List Int) : Prop :=
  (a = none ∧ len = 0 ∧ cap = 0 ∧ zs = []) ∨
  ∃ x, a = some x ∧ len ≤ cap ∧ cap ≤ maxLen ∧ zs.length = cap ∧ (∀ i, i < zs.length → w.cell? (x.add i) = some (.int k (zs.getD i 0))) ∧ ∀ n ∈ zs, (Lit.int k n).wf = true

theorem row_fn {w : World} {x : Addr} {zs : List Int} {len : Nat} (hpos : 1 ≤ len) (hlen : len ≤ zs.length) (hc : ∀ i, i < zs.length → w.cell? (x.add i) = some (.int .u8 (zs.getD i 0))) (hw : ∀ n ∈ zs, (Lit.int .u8 n).wf = true) :
    ∃ (b off : Nat) (z : Nat → Int), x = ⟨b, off, none⟩ ∧ b < w.heap.size ∧ (∀ i, i < len → w.cell? ⟨b, off + i, none⟩ = some (.int .u8 (z i))) ∧ ∀ i, 0 ≤ z i ∧ z i ≤ 255 := by
  obtain ⟨b, off, spot⟩ := x
  have hspot : spot = none := by simpa [Addr.add] using World.cell?_spot (hc 0 (by omega))
  subst hspot
  refine ⟨b, off, fun i => zs.getD i 0, rfl, ?_, fun i hi => ?_, fun i => ?_⟩
  · have h0 := block_lt_of_cell (hc 0 (by omega)); rw [add_plain] at h0; exact h0
  · rw [← add_plain]; exact hc i (by omega)
  · have := range_u8 hw i
    simpa using this

theorem net_drewN {w : World} {B len : Nat} {z : Nat → Int} (h : Net w B len z) (n : Nat) : Net (w.drewN n) B len z := ⟨h.1, h.2, h.3, h.4⟩

set_option maxHeartbeats 400000 in
theorem walk_a (z : Nat → Int) (b off len cap x y t : Nat) (a1 a2 a3 : Int) (w : World) (h1 : 1 ≤ len) (h2 : len ≤ 1024) (hb : b < w.heap.size)
    (hc : ∀ i, i < len → w.cell? ⟨b, off + i, none⟩ = some (.int .u8 (z i))) (hz : ∀ i, 0 ≤ z i ∧ z i ≤ 255) (p1 : 0 ≤ a1) (p2 : 0 ≤ a2) (p3 : 0 ≤ a3)
    (ex : a1 % (len : Int) = (x : Int)) (ey : a2 % (len : Int) = (y : Int)) (et : a3 % (len : Int) = (t : Int)) (hx : x < len) (hy : y < len) (ht : t < len) (q1 : z x ≤ z y) (q2 : z x ≤ z t) :
    Calls Yba.prog 8 #[.slice (some ⟨b, off, none⟩) len cap, .int .u64 a1, .int .u64 a2, .int .u64 a3] w fun e w' => e = .returned (.bool true) ∧ Below w.heap.size w w' := by
  have hcx := hc x hx
  have hcy := hc y hy
  have hct := hc t ht
  have g1 : ((len : Int) == 0) = false := beq_eq_false_iff_ne.2 (by omega)
  have g2 : decide ((1024 : Int) < (len : Int)) = false := decide_eq_false (by omega)
  have hl1 : lessZ z (x : Int) (y : Int) = (x : Int) := by simp [lessZ]; omega
  have hl2 : lessZ z (x : Int) (t : Int) = (x : Int) := by simp [lessZ]; omega
  go_enter Yba.func8, Yba.ntmps8
  go_wp2_with fail
  refine (build_any z b off len cap w h1 h2 hb hc hz).mono ?_
  rintro e w1 ⟨rfl, hnet, hb1⟩
  have hcx1 := (hb1.cell (p := ⟨b, off + x, none⟩) hb).trans hcx
  have hcy1 := (hb1.cell (p := ⟨b, off + y, none⟩) hb).trans hcy
  have hct1 := (hb1.cell (p := ⟨b, off + t, none⟩) hb).trans hct
  clear hcx hcy hct
  go_wp2_with fail
  refine (lesser_any z w.heap.size len x y w1 hz h2 (by omega) (by omega) (by omega) (by omega) hnet).mono ?_
  rintro e w2 ⟨rfl, n, rfl⟩
  rw [hl1]
  go_wp2_with fail
  refine (lesser_any z w.heap.size len x t (w1.drewN n) hz h2 (by omega) (by omega) (by omega) (by omega) (net_drewN hnet n)).mono ?_
  rintro e w2 ⟨rfl, n2, rfl⟩
  rw [hl2]
  go_wp2
  go_region
  all_goals go_wp2
  all_goals go_ret
  all_goals exact ⟨rfl, below_drewN hb1 _⟩

set_option maxHeartbeats 400000 in
theorem walk_b (z : Nat → Int) (b off len cap x y t : Nat) (a1 a2 a3 : Int) (w : World) (h1 : 1 ≤ len) (h2 : len ≤ 1024) (hb : b < w.heap.size)
    (hc : ∀ i, i < len → w.cell? ⟨b, off + i, none⟩ = some (.int .u8 (z i))) (hz : ∀ i, 0 ≤ z i ∧ z i ≤ 255) (p1 : 0 ≤ a1) (p2 : 0 ≤ a2) (p3 : 0 ≤ a3)
    (ex : a1 % (len : Int) = (x : Int)) (ey : a2 % (len : Int) = (y : Int)) (et : a3 % (len : Int) = (t : Int)) (hx : x < len) (hy : y < len) (ht : t < len) (q1 : z x ≤ z y) (q2 : z t < z x) :
    Calls Yba.prog 8 #[.slice (some ⟨b, off, none⟩) len cap, .int .u64 a1, .int .u64 a2, .int .u64 a3] w fun e w' => e = .returned (.bool true) ∧ Below w.heap.size w w' := by
  have hcx := hc x hx
  have hcy := hc y hy
  have hct := hc t ht
  have g1 : ((len : Int) == 0) = false := beq_eq_false_iff_ne.2 (by omega)
  have g2 : decide ((1024 : Int) < (len : Int)) = false := decide_eq_false (by omega)
  have hl1 : lessZ z (x : Int) (y : Int) = (x : Int) := by simp [lessZ]; omega
  have hl2 : lessZ z (x : Int) (t : Int) = (t : Int) := by simp [lessZ]; omega
  go_enter Yba.func8, Yba.ntmps8
  go_wp2_with fail
  refine (build_any z b off len cap w h1 h2 hb hc hz).mono ?_
  rintro e w1 ⟨rfl, hnet, hb1⟩
  have hcx1 := (hb1.cell (p := ⟨b, off + x, none⟩) hb).trans hcx
  have hcy1 := (hb1.cell (p := ⟨b, off + y, none⟩) hb).trans hcy
  have hct1 := (hb1.cell (p := ⟨b, off + t, none⟩) hb).trans hct
  clear hcx hcy hct
  go_wp2_with fail
  refine (lesser_any z w.heap.size len x y w1 hz h2 (by omega) (by omega) (by omega) (by omega) hnet).mono ?_
  rintro e w2 ⟨rfl, n, rfl⟩
  rw [hl1]
  go_wp2_with fail
  refine (lesser_any z w.heap.size len x t (w1.drewN n) hz h2 (by omega) (by omega) (by omega) (by omega) (net_drewN hnet n)).mono ?_
  rintro e w2 ⟨rfl, n2, rfl⟩
  rw [hl2]
  go_wp2
  go_region
  all_goals go_wp2
  all_goals go_ret
  all_goals exact ⟨rfl, below_drewN hb1 _⟩

set_option maxHeartbeats 400000 in
theorem walk_c (z : Nat → Int) (b off len cap x y t : Nat) (a1 a2 a3 : Int) (w : World) (h1 : 1 ≤ len) (h2 : len ≤ 1024) (hb : b < w.heap.size)
    (hc : ∀ i, i < len → w.cell? ⟨b, off + i, none⟩ = some (.int .u8 (z i))) (hz : ∀ i, 0 ≤ z i ∧ z i ≤ 255) (p1 : 0 ≤ a1) (p2 : 0 ≤ a2) (p3 : 0 ≤ a3)
    (ex : a1 % (len : Int) = (x : Int)) (ey : a2 % (len : Int) = (y : Int)) (et : a3 % (len : Int) = (t : Int)) (hx : x < len) (hy : y < len) (ht : t < len) (q1 : z y < z x) (q2 : z y ≤ z t) :
    Calls Yba.prog 8 #[.slice (some ⟨b, off, none⟩) len cap, .int .u64 a1, .int .u64 a2, .int .u64 a3] w fun e w' => e = .returned (.bool true) ∧ Below w.heap.size w w' := by
  have hcx := hc x hx
  have hcy := hc y hy
  have hct := hc t ht
  have g1 : ((len : Int) == 0) = false := beq_eq_false_iff_ne.2 (by omega)
  have g2 : decide ((1024 : Int) < (len : Int)) = false := decide_eq_false (by omega)
  have hl1 : lessZ z (x : Int) (y : Int) = (y : Int) := by simp [lessZ]; omega
  have hl2 : lessZ z (y : Int) (t : Int) = (y : Int) := by simp [lessZ]; omega
  go_enter Yba.func8, Yba.ntmps8
  go_wp2_with fail
  refine (build_any z b off len cap w h1 h2 hb hc hz).mono ?_
  rintro e w1 ⟨rfl, hnet, hb1⟩
  have hcx1 := (hb1.cell (p := ⟨b, off + x, none⟩) hb).trans hcx
  have hcy1 := (hb1.cell (p := ⟨b, off + y, none⟩) hb).trans hcy
  have hct1 := (hb1.cell (p := ⟨b, off + t, none⟩) hb).trans hct
  clear hcx hcy hct
  go_wp2_with fail
  refine (lesser_any z w.heap.size len x y w1 hz h2 (by omega) (by omega) (by omega) (by omega) hnet).mono ?_
  rintro e w2 ⟨rfl, n, rfl⟩
  rw [hl1]
  go_wp2_with fail
  refine (lesser_any z w.heap.size len y t (w1.drewN n) hz h2 (by omega) (by omega) (by omega) (by omega) (net_drewN hnet n)).mono ?_
  rintro e w2 ⟨rfl, n2, rfl⟩
  rw [hl2]
  go_wp2
  go_region
  all_goals go_wp2
  all_goals go_ret
  all_goals exact ⟨rfl, below_drewN hb1 _⟩

set_option maxHeartbeats 400000 in
theorem walk_d (z : Nat → Int) (b off len cap x y t : Nat) (a1 a2 a3 : Int) (w : World) (h1 : 1 ≤ len) (h2 : len ≤ 1024) (hb : b < w.heap.size)
    (hc : ∀ i, i < len → w.cell? ⟨b, off + i, none⟩ = some (.int .u8 (z i))) (hz : ∀ i, 0 ≤ z i ∧ z i ≤ 255) (p1 : 0 ≤ a1) (p2 : 0 ≤ a2) (p3 : 0 ≤ a3)
    (ex : a1 % (len : Int) = (x : Int)) (ey : a2 % (len : Int) = (y : Int)) (et : a3 % (len : Int) = (t : Int)) (hx : x < len) (hy : y < len) (ht : t < len) (q1 : z y < z x) (q2 : z t < z y) :
    Calls Yba.prog 8 #[.slice (some ⟨b, off, none⟩) len cap, .int .u64 a1, .int .u64 a2, .int .u64 a3] w fun e w' => e = .returned (.bool true) ∧ Below w.heap.size w w' := by
  have hcx := hc x hx
  have hcy := hc y hy
  have hct := hc t ht
  have g1 : ((len : Int) == 0) = false := beq_eq_false_iff_ne.2 (by omega)
  have g2 : decide ((1024 : Int) < (len : Int)) = false := decide_eq_false (by omega)
  have hl1 : lessZ z (x : Int) (y : Int) = (y : Int) := by simp [lessZ]; omega
  have hl2 : lessZ z (y : Int) (t : Int) = (t : Int) := by simp [lessZ]; omega
  go_enter Yba.func8, Yba.ntmps8
  go_wp2_with fail
  refine (build_any z b off len cap w h1 h2 hb hc hz).mono ?_
  rintro e w1 ⟨rfl, hnet, hb1⟩
  have hcx1 := (hb1.cell (p := ⟨b, off + x, none⟩) hb).trans hcx
  have hcy1 := (hb1.cell (p := ⟨b, off + y, none⟩) hb).trans hcy
  have hct1 := (hb1.cell (p := ⟨b, off + t, none⟩) hb).trans hct
  clear hcx hcy hct
  go_wp2_with fail
  refine (lesser_any z w.heap.size len x y w1 hz h2 (by omega) (by omega) (by omega) (by omega) hnet).mono ?_
  rintro e w2 ⟨rfl, n, rfl⟩
  rw [hl1]
  go_wp2_with fail
  refine (lesser_any z w.heap.size len y t (w1.drewN n) hz h2 (by omega) (by omega) (by omega) (by omega) (net_drewN hnet n)).mono ?_
  rintro e w2 ⟨rfl, n2, rfl⟩
  rw [hl2]
  go_wp2
  go_region
  all_goals go_wp2
  all_goals go_ret
  all_goals exact ⟨rfl, below_drewN hb1 _⟩

/-! ### STEP 1: THE WALK: the Go text returns true, AND WRITES NOTHING THAT WAS THERE: 'Below w.heap.size w w'' (Derived/Below.lean: '.refl', '.alloc', '.drew', '.setCell' at a new block, '.trans'). Open each 'IsRow' by 'rcases' AHEAD of 'go_enter'; part every test ahead of the walk. -/
theorem walk (a0 : Option Addr) (len0 cap0 : Nat) (z0 : List Int) (a1 : Int) (a2 : Int) (a3 : Int) (w : World) (w0 : IsRow .u8 w a0 len0 cap0 z0) (w1 : (Lit.int .u64 a1).wf = true) (w2 : (Lit.int .u64 a2).wf = true) (w3 : (Lit.int .u64 a3).wf = true) :
    Calls Yba.prog 8 #[.slice a0 len0 cap0, .int .u64 a1, .int .u64 a2, .int .u64 a3] w fun e w' => e = .returned (.bool true) ∧ Below w.heap.size w w' := by
  by_cases hlen : len0 = 0
  · subst hlen
    go_enter Yba.func8, Yba.ntmps8
    go_wp2
    go_ret
    exact ⟨rfl, Below.refl _ _⟩
  by_cases hbig : 1024 < len0
  · have hm : len0 ≤ 9223372036854775807 := by
      rcases w0 with ⟨_, h, _⟩ | ⟨_, _, h, h', _⟩
      · omega
      · unfold maxLen at h'; omega
    clear w0
    go_enter Yba.func8, Yba.ntmps8
    go_wp2
    go_ret
    exact ⟨rfl, Below.refl _ _⟩
  rcases w0 with ⟨_, h, _⟩ | ⟨x, rfl, hl, hcm, hzl, hc, hwz⟩
  · omega
  obtain ⟨b, off, z, rfl, hb, hcell, hz⟩ := row_fn (len := len0) (by omega) (by omega) hc hwz
  have p1 := (bounds_u64 w1).1
  have p2 := (bounds_u64 w2).1
  have p3 := (bounds_u64 w3).1
  have hpos : (0 : Int) < (len0 : Int) := by omega
  obtain ⟨u, eu⟩ := Int.eq_ofNat_of_zero_le (Int.emod_nonneg a1 (show (len0 : Int) ≠ 0 by omega))
  obtain ⟨v, ev⟩ := Int.eq_ofNat_of_zero_le (Int.emod_nonneg a2 (show (len0 : Int) ≠ 0 by omega))
  obtain ⟨t, et⟩ := Int.eq_ofNat_of_zero_le (Int.emod_nonneg a3 (show (len0 : Int) ≠ 0 by omega))
  have hu := Int.emod_lt_of_pos a1 hpos
  have hv := Int.emod_lt_of_pos a2 hpos
  have ht := Int.emod_lt_of_pos a3 hpos
  rw [eu] at hu
  rw [ev] at hv
  rw [et] at ht
  have l1 : 1 ≤ len0 := by omega
  have l2 : len0 ≤ 1024 := by omega
  by_cases q1 : z v < z u
  · by_cases q2 : z t < z v
    · exact walk_d z b off len0 cap0 u v t a1 a2 a3 w l1 l2 hb hcell hz p1 p2 p3 eu ev et (by omega) (by omega) (by omega) q1 q2
    · exact walk_c z b off len0 cap0 u v t a1 a2 a3 w l1 l2 hb hcell hz p1 p2 p3 eu ev et (by omega) (by omega) (by omega) q1 (by omega)
  · by_cases q2 : z t < z u
    · exact walk_b z b off len0 cap0 u v t a1 a2 a3 w l1 l2 hb hcell hz p1 p2 p3 eu ev et (by omega) (by omega) (by omega) (by omega) q2
    · exact walk_a z b off len0 cap0 u v t a1 a2 a3 w l1 l2 hb hcell hz p1 p2 p3 eu ev et (by omega) (by omega) (by omega) (by omega) (by omega)

/-! ### THE ROW's STEP: WRITTEN OUT: LEAVE IT -/
set_option maxRecDepth 100000 in
theorem lifted (os : Os) (started : os.Started) (H : Type) (enc : TypeId × Value → H) :
    ReturnsInHanded {} Yba.checked os 8 .any (Rows.lawS1317CMinOfThreeSpec.pre6 enc Yba.prog Yba.f8 Rows.lawS1317CMinOfThreeRow.domain false) (Rows.lawS1317CMinOfThreeSpec.post enc Yba.prog Yba.f8 false true false false) := by
  refine returnsInHanded_of_change (C := Yba.checked) own started (by kernel_rfl) Yba.func8
    (ChangeSpec.witness6 (enc := enc) (C := Yba.checked) false ⟨#[], #[.slice none 0 0, .int .u64 0, .int .u64 0, .int .u64 0], []⟩ 8 (by kernel_rfl) (by kernel_rfl) (by kernel_rfl) (by kernel_rfl)) ?_
  intro W base args ds gs before hval0 hW hcnd _
  have hval : ∀ (j : Nat) t v, Yba.f8.params[j]? = some t → args[j]? = some v → Value.okWide Yba.prog W .any base t v := hval0
  have hW' := hW
  obtain ⟨p, q, hA0, hV, rfl, hfz, hnd⟩ := hW
  have hA : DataW.TrodAll enc Yba.prog W 0 (fun _ => true) true Yba.f8.params.toList args.toList ds p := hA0
  rw [Yba.params8] at hA hval
  obtain ⟨v0, vs0, d0, ds0, p0, q0, hargs, rfl, rfl, h0, r0⟩ := trodAll_cons hA
  obtain ⟨v1, vs1, d1, ds1, p1, q1, rfl, rfl, rfl, h1, r1⟩ := trodAll_cons r0
  obtain ⟨v2, vs2, d2, ds2, p2, q2, rfl, rfl, rfl, h2, r2⟩ := trodAll_cons r1
  obtain ⟨v3, vs3, d3, ds3, p3, q3, rfl, rfl, rfl, h3, r3⟩ := trodAll_cons r2
  obtain ⟨rfl, rfl, rfl⟩ := trodAll_nil r3
  obtain rfl : args = #[v0, v1, v2, v3] := by cases args; simp_all
  obtain ⟨rfl, rfl⟩ := trodVars_none hV
  obtain ⟨a0, len0, cap0, rfl⟩ := okWide_slice Yba.underlying35 (hval 0 35 v0 rfl rfl)
  have k0 := h0
  have lt0 : ∀ x ∈ p0, x.block < W.heap.size := by obtain ⟨m, hm⟩ := k0; exact DataW.trod_lt m _ _ _ hm
  obtain ⟨z0, w0⟩ : ∃ zs, IsRow .u8 W a0 len0 cap0 zs := by
    obtain ⟨fuel, hf⟩ := h0
    rcases open_ints Yba.underlying35 Yba.underlying5 (by kernel_rfl) hf with ⟨hcs, _⟩ | ⟨x, l, c, zs, hcs, _, hl, hm, hz, _, hcell, hwz⟩
    · simp [Value.cells] at hcs
      obtain ⟨rfl, rfl, rfl⟩ := hcs
      exact ⟨[], .inl ⟨rfl, rfl, rfl, rfl⟩⟩
    · simp [Value.cells] at hcs
      obtain ⟨rfl, rfl, rfl⟩ := hcs
      exact ⟨zs, .inr ⟨_, rfl, hl, hm, by simpa using hz, hcell, hwz⟩⟩
  obtain ⟨a1, rfl, rfl, rfl, w1⟩ := open_int Yba.underlying30 (hval 1 30 v1 rfl rfl) h1
  obtain ⟨a2, rfl, rfl, rfl, w2⟩ := open_int Yba.underlying30 (hval 2 30 v2 rfl rfl) h2
  obtain ⟨a3, rfl, rfl, rfl, w3⟩ := open_int Yba.underlying30 (hval 3 30 v3 rfl rfl) h3
  clear hA0 hval0
  refine (walk a0 len0 cap0 z0 a1 a2 a3 W w0 w1 w2 w3).mono fun e W' ⟨he, bel⟩ => ?_
  subst he
  exact ⟨_, rfl, _, _, _, [], _, [], hW', trodAll_mk1 (shut_bool Yba.underlying4 _), (trodAll_cons_mk (Below.trod laidOut (by kernel_rfl) (of_decide_eq_true (by kernel_rfl)) k0 bel lt0) (trodAll_cons_mk (shut_int Yba.underlying30 w1) (trodAll_cons_mk (shut_int Yba.underlying30 w2) (trodAll_cons_mk (shut_int Yba.underlying30 w3) trodAll_mk0)))), rfl, bel.frame _, fun h => by cases h⟩

theorem over : Rows.lawS1317CMinOfThreeRow.holds Yba.pinned (OpenSpec.ofChange Rows.lawS1317CMinOfThreeSpec) :=
  OpenClaim.holds_of_wide 8 Yba.f8 rfl rfl rfl rfl rfl rfl rfl ⟨rfl, rfl, rfl, rfl, rfl⟩ rfl rfl rfl rfl rfl (by kernel_rfl) Yba.func8 (by kernel_rfl)
    (of_decide_eq_true (by kernel_rfl)) (by unfold Func.isWrapper; first | (rw [if_pos (by decide +kernel)]; kernel_rfl) | (rw [if_neg (by decide +kernel)]; exact ⟨rfl, rfl⟩))
    (fun os started H enc _ => lifted os started H enc)

/-- ████ THE STATEMENT ████ -/
theorem proved : Rows.LawS1317CMinOfThreeSaid := over
#print axioms proved
end Go.Proofs.Ybulkaage.lawS1317CMinOfThree
