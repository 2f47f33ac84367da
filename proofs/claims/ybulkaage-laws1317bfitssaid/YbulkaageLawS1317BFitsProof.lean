/-
  THE PROOF OF 'Rows.LawS1317BFitsSaid' ('solver.LawS1317BFits'). The frame is the guide's own way (the skeleton's, its slices of structs opened by hand); the walk is built out of the contracts of YbulkaageBWalks, YbulkaageBRange, YbulkaageBFits.
-/
import Derived.Test.YbulkaageRows
import Derived.Test.YbulkaageBFits
import Derived.Test.YbulkaageBOpen
import Derived.WalkKit
import Derived.ProofKit
import Derived.OpenShut
import Derived.ShutString
import Derived.ChangeOld
import Derived.Below
namespace Go.Proofs.Ybulkaage.lawS1317BFits
open Go.ChangeShapes Go.WideShapes Go.ChangeAt Go.RowKit

theorem own : ownKnob Yba.prog.godebug = none := by kernel_rfl
theorem laidOut : laidOutB Yba.prog = true := by kernel_rfl

/-- More than 1024 prices or arcs: true at once. -/
theorem walk_many (a0 a3 : Int) (a1 a2 : Option Addr) (len1 cap1 len2 cap2 : Nat) (w : World) (m1 : len1 ≤ maxLen) (m2 : len2 ≤ maxLen) (h : 1024 < len1 ∨ 1024 < len2) :
    Calls Yba.prog 6 #[.int .i32 a0, .slice a1 len1 cap1, .slice a2 len2 cap2, .int .i64 a3] w fun e w' => e = .returned (.bool true) ∧ Below w.heap.size w w' := by
  unfold maxLen at m1 m2
  by_cases g : 1024 < len1
  · have g1 : decide ((1024 : Int) < (len1 : Int)) = true := decide_eq_true (by omega)
    go_enter Yba.func6, Yba.ntmps6
    go_wp2
    go_ret
    exact ⟨rfl, Below.refl _ _⟩
  · have g1 : decide ((1024 : Int) < (len1 : Int)) = false := decide_eq_false (by omega)
    have g2 : decide ((1024 : Int) < (len2 : Int)) = true := decide_eq_true (by omega)
    go_enter Yba.func6, Yba.ntmps6
    go_wp2
    go_ret
    exact ⟨rfl, Below.refl _ _⟩

/-- THE WALK, for whatever reads as data. -/
theorem walk {H : Type} {enc : TypeId × Value → H} (a0 a3 : Int) (a1 a2 : Option Addr) (len1 cap1 len2 cap2 : Nat) (w : World) (w0 : (Lit.int .i32 a0).wf = true) (w3 : (Lit.int .i64 a3).wf = true)
    {f1 f2 : Nat} {x1 x2 : DataW H × List MemPlace} (h1 : DataW.trod enc Yba.prog w 0 (fun _ => true) true f1 23 [.slice a1 len1 cap1] = some x1) (h2 : DataW.trod enc Yba.prog w 0 (fun _ => true) true f2 37 [.slice a2 len2 cap2] = some x2) :
    Calls Yba.prog 6 #[.int .i32 a0, .slice a1 len1 cap1, .slice a2 len2 cap2, .int .i64 a3] w fun e w' => e = .returned (.bool true) ∧ Below w.heap.size w w' := by
  obtain ⟨m1, b1, o1, P, k1, k2, k3, k4⟩ := open_prices h1
  obtain ⟨m2, b2, o2, A, k5, k6, k7, k8⟩ := open_arcs h2
  by_cases big : 1024 < len1 ∨ 1024 < len2
  · exact walk_many a0 a3 a1 a2 len1 cap1 len2 cap2 w m1 m2 big
  · by_cases hz : len1 = 0
    · exact fits_main a0 a3 a1 b1 o1 len1 cap1 P a2 b2 o2 len2 cap2 A w 1 (by omega) (by omega) (by omega) (bounds_i32 w0) (bounds_i64 w3).1 (bounds_i64 w3).2 k1 k2 k3 k4 k5 k6 k7 k8
    · exact fits_main a0 a3 a1 b1 o1 len1 cap1 P a2 b2 o2 len2 cap2 A w len1 (by omega) (by omega) (by omega) (bounds_i32 w0) (bounds_i64 w3).1 (bounds_i64 w3).2 k1 k2 k3 k4 k5 k6 k7 k8

set_option maxRecDepth 100000 in
theorem lifted (os : Os) (started : os.Started) (H : Type) (enc : TypeId × Value → H) :
    ReturnsInHanded {} Yba.checked os 6 .any (Rows.lawS1317BFitsSpec.pre6 enc Yba.prog Yba.f6 Rows.lawS1317BFitsRow.domain false) (Rows.lawS1317BFitsSpec.post enc Yba.prog Yba.f6 false true false false) := by
  refine returnsInHanded_of_change (C := Yba.checked) own started (by kernel_rfl) Yba.func6
    (ChangeSpec.witness6 (enc := enc) (C := Yba.checked) false ⟨#[], #[.int .i32 0, .slice none 0 0, .slice none 0 0, .int .i64 0], []⟩ 8 (by kernel_rfl) (by kernel_rfl) (by kernel_rfl) (by kernel_rfl)) ?_
  intro W base args ds gs before hval0 hW hcnd _
  have hval : ∀ (j : Nat) t v, Yba.f6.params[j]? = some t → args[j]? = some v → Value.okWide Yba.prog W .any base t v := hval0
  have hW' := hW
  obtain ⟨p, q, hA0, hV, rfl, hfz, hnd⟩ := hW
  have hA : DataW.TrodAll enc Yba.prog W 0 (fun _ => true) true Yba.f6.params.toList args.toList ds p := hA0
  rw [Yba.params6] at hA hval
  obtain ⟨v0, vs0, d0, ds0, p0, q0, hargs, rfl, rfl, h0, r0⟩ := trodAll_cons hA
  obtain ⟨v1, vs1, d1, ds1, p1, q1, rfl, rfl, rfl, h1, r1⟩ := trodAll_cons r0
  obtain ⟨v2, vs2, d2, ds2, p2, q2, rfl, rfl, rfl, h2, r2⟩ := trodAll_cons r1
  obtain ⟨v3, vs3, d3, ds3, p3, q3, rfl, rfl, rfl, h3, r3⟩ := trodAll_cons r2
  obtain ⟨rfl, rfl, rfl⟩ := trodAll_nil r3
  obtain rfl : args = #[v0, v1, v2, v3] := by cases args; simp_all
  obtain ⟨rfl, rfl⟩ := trodVars_none hV
  obtain ⟨a0, rfl, rfl, rfl, w0⟩ := open_int Yba.underlying21 (hval 0 21 v0 rfl rfl) h0
  obtain ⟨a1, len1, cap1, rfl⟩ := okWide_slice Yba.underlying23 (hval 1 23 v1 rfl rfl)
  obtain ⟨a2, len2, cap2, rfl⟩ := okWide_slice Yba.underlying37 (hval 2 37 v2 rfl rfl)
  obtain ⟨a3, rfl, rfl, rfl, w3⟩ := open_int Yba.underlying2 (hval 3 2 v3 rfl rfl) h3
  have k1 := h1
  have k2 := h2
  have lt1 : ∀ x ∈ p1, x.block < W.heap.size := by obtain ⟨m, hm⟩ := k1; exact DataW.trod_lt m _ _ _ hm
  have lt2 : ∀ x ∈ p2, x.block < W.heap.size := by obtain ⟨m, hm⟩ := k2; exact DataW.trod_lt m _ _ _ hm
  obtain ⟨f1, t1⟩ := h1
  obtain ⟨f2, t2⟩ := h2
  clear hA0 hval0
  refine (walk a0 a3 a1 a2 len1 cap1 len2 cap2 W w0 w3 (by simpa [Value.cells] using t1) (by simpa [Value.cells] using t2)).mono fun e W' ⟨he, bel⟩ => ?_
  subst he
  exact ⟨_, rfl, _, _, _, [], _, [], hW', trodAll_mk1 (shut_bool Yba.underlying4 _), (trodAll_cons_mk (shut_int Yba.underlying21 w0) (trodAll_cons_mk (Below.trod laidOut (by kernel_rfl) (of_decide_eq_true (by kernel_rfl)) k1 bel lt1) (trodAll_cons_mk (Below.trod laidOut (by kernel_rfl) (of_decide_eq_true (by kernel_rfl)) k2 bel lt2) (trodAll_cons_mk (shut_int Yba.underlying2 w3) trodAll_mk0)))), rfl, bel.frame _, fun h => by cases h⟩

theorem over : Rows.lawS1317BFitsRow.holds Yba.pinned (OpenSpec.ofChange Rows.lawS1317BFitsSpec) :=
  OpenClaim.holds_of_wide 6 Yba.f6 rfl rfl rfl rfl rfl rfl rfl ⟨rfl, rfl, rfl, rfl, rfl⟩ rfl rfl rfl rfl rfl (by kernel_rfl) Yba.func6 (by kernel_rfl)
    (of_decide_eq_true (by kernel_rfl)) (by unfold Func.isWrapper; first | (rw [if_pos (by decide +kernel)]; kernel_rfl) | (rw [if_neg (by decide +kernel)]; exact ⟨rfl, rfl⟩))
    (fun os started H enc _ => lifted os started H enc)

/-- THE STATEMENT -/
theorem proved : Rows.LawS1317BFitsSaid := over
#print axioms proved
end Go.Proofs.Ybulkaage.lawS1317BFits
