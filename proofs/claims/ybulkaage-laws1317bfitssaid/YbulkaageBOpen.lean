import Derived.Test.YbulkaageBRange
import Derived.ProofKit
import Derived.OpenShut
import Derived.Deep.Slices
import Derived.Lib.SmallJoins
namespace Go.Proofs.Ybulkaage
open Go.ChangeShapes Go.WideShapes Go.ChangeAt Go.RowKit Go.Joins

theorem Yba.cells44 : Yba.prog.cellsOf 44 = 4 := by kernel_rfl
theorem Yba.cells21 : Yba.prog.cellsOf 21 = 1 := by kernel_rfl
theorem Yba.cells29 : Yba.prog.cellsOf 29 = 1 := by kernel_rfl

/-- What the cell of one arc read as. -/
def ArcIs (w : World) (b o i : Nat) (q : Int × Int × Int × Int) : Prop :=
  (w.cell? ⟨b, o + i * 4, none⟩ = some (.int .u16 q.1) ∧ w.cell? ⟨b, o + i * 4 + 1, none⟩ = some (.int .i32 q.2.1) ∧ w.cell? ⟨b, o + i * 4 + 2, none⟩ = some (.int .i32 q.2.2.1) ∧ w.cell? ⟨b, o + i * 4 + 3, none⟩ = some (.int .i32 q.2.2.2)) ∧
  (0 ≤ q.1 ∧ q.1 ≤ 65535) ∧ I32 q.2.1 ∧ I32 q.2.2.1 ∧ I32 q.2.2.2

theorem list4 {α : Type} {l : List α} (h : l.length = 4) : ∃ c0 c1 c2 c3, l = [c0, c1, c2, c3] := by
  match l, h with
  | [c0, c1, c2, c3], _ => exact ⟨c0, c1, c2, c3, rfl⟩

/-- THE ARGUMENT 'arcs', OPENED: whatever slice of arcs reads as data. -/
theorem open_arcs {H : Type} {enc : TypeId × Value → H} {W : World} {a0 : Option Addr} {len cap fuel : Nat} {x : DataW H × List MemPlace}
    (hf : DataW.trod enc Yba.prog W 0 (fun _ => true) true fuel 37 [.slice a0 len cap] = some x) :
    len ≤ maxLen ∧ ∃ (b o : Nat) (A : Arcs), (0 < len → a0 = some ⟨b, o, none⟩) ∧ (0 < len → b < W.heap.size) ∧ ArcCells W b o len A ∧ A.Ok := by
  have hz : I32 0 := ⟨by decide, by decide⟩
  have zero : len = 0 → len ≤ maxLen ∧ ∃ (b o : Nat) (A : Arcs), (0 < len → a0 = some ⟨b, o, none⟩) ∧ (0 < len → b < W.heap.size) ∧ ArcCells W b o len A ∧ A.Ok := by
    rintro rfl
    exact ⟨Nat.zero_le _, 0, 0, ⟨fun _ => 0, fun _ => 0, fun _ => 0, fun _ => 0⟩, fun h => absurd h (by omega), fun h => absurd h (by omega), ⟨fun i h => absurd h (by omega), fun i h => absurd h (by omega), fun i h => absurd h (by omega), fun i h => absurd h (by omega)⟩,
      ⟨fun _ => ⟨by simp, by simp⟩, fun _ => hz, fun _ => hz, fun _ => hz⟩⟩
  rcases Deep.open_slice Yba.underlying37 hf with ⟨hcs, _⟩ | ⟨a, l, c, m, n, D, Pl, hcs, _, hl, hm, hme, _, hel⟩
  · simp at hcs
    exact zero hcs.2.1
  · simp at hcs
    obtain ⟨rfl, rfl, rfl⟩ := hcs
    by_cases h0 : len = 0
    · exact zero h0
    simp at hme
    subst hme
    rw [Yba.cells44] at hel
    -- the address is a plain one
    obtain ⟨b, o, spot⟩ := a
    have hspot : spot = none := by
      obtain ⟨cs', hc, _⟩ := hel 0 (by omega)
      obtain ⟨_, hl4, hcell⟩ := World.cells?_some hc
      have h := hcell 0 (by omega)
      obtain ⟨c0, c1, c2, c3, rfl⟩ := list4 hl4
      simpa [Addr.add] using World.cell?_spot h
    subst hspot
    have each : ∀ i, i < len → ∃ q, ArcIs W b o i q := by
      intro i hi
      obtain ⟨cs', hc, ht⟩ := hel i (by omega)
      obtain ⟨_, hl4, hcell⟩ := World.cells?_some hc
      obtain ⟨c0, c1, c2, c3, rfl⟩ := list4 hl4
      obtain ⟨y0, y1, y2, y3, n', _, _, t0, t1, t2, t3⟩ := trod_struct4 Yba.underlying44 ht
      simp only [Yba.cells29, Yba.cells21, List.drop_zero, List.drop_succ_cons, List.take_succ_cons, List.take_zero] at t0 t1 t2 t3
      obtain ⟨q0, e0, _, f0⟩ := DataW.trod_int Yba.underlying29 t0
      obtain ⟨q1, e1, _, f1⟩ := DataW.trod_int Yba.underlying21 t1
      obtain ⟨q2, e2, _, f2⟩ := DataW.trod_int Yba.underlying21 t2
      obtain ⟨q3, e3, _, f3⟩ := DataW.trod_int Yba.underlying21 t3
      simp at e0 e1 e2 e3
      subst e0 e1 e2 e3
      have g0 := hcell 0 (by omega)
      have g1 := hcell 1 (by omega)
      have g2 := hcell 2 (by omega)
      have g3 := hcell 3 (by omega)
      simp only [add_plain] at g0 g1 g2 g3
      exact ⟨(q0, q1, q2, q3), ⟨by simpa using g0, by simpa using g1, by simpa using g2, by simpa using g3⟩, bounds_u16 f0, bounds_i32 f1, bounds_i32 f2, bounds_i32 f3⟩
    obtain ⟨F, hF⟩ := Deep.choose_lt each
    refine ⟨by omega, b, o, ⟨fun i => if i < len then (F i).1 else 0, fun i => if i < len then (F i).2.1 else 0, fun i => if i < len then (F i).2.2.1 else 0, fun i => if i < len then (F i).2.2.2 else 0⟩, fun _ => rfl, fun _ => ?_, ⟨?_, ?_, ?_, ?_⟩, ⟨?_, ?_, ?_, ?_⟩⟩
    · exact block_lt_of_cell (hF 0 (by omega)).1.1
    · intro i hi; simp only [if_pos hi]; exact (hF i hi).1.1
    · intro i hi; simp only [if_pos hi]; exact (hF i hi).1.2.1
    · intro i hi; simp only [if_pos hi]; exact (hF i hi).1.2.2.1
    · intro i hi; simp only [if_pos hi]; exact (hF i hi).1.2.2.2
    · intro i; by_cases hi : i < len
      · simp only [if_pos hi]; exact (hF i hi).2.1
      · simp only [if_neg hi]; exact ⟨by decide, by decide⟩
    · intro i; by_cases hi : i < len
      · simp only [if_pos hi]; exact (hF i hi).2.2.1
      · simp only [if_neg hi]; exact hz
    · intro i; by_cases hi : i < len
      · simp only [if_pos hi]; exact (hF i hi).2.2.2.1
      · simp only [if_neg hi]; exact hz
    · intro i; by_cases hi : i < len
      · simp only [if_pos hi]; exact (hF i hi).2.2.2.2
      · simp only [if_neg hi]; exact hz

/-- THE ARGUMENT 'prices', OPENED. -/
theorem open_prices {H : Type} {enc : TypeId × Value → H} {W : World} {a0 : Option Addr} {len cap fuel : Nat} {x : DataW H × List MemPlace}
    (hf : DataW.trod enc Yba.prog W 0 (fun _ => true) true fuel 23 [.slice a0 len cap] = some x) :
    len ≤ maxLen ∧ ∃ (b o : Nat) (P : Nat → Int), (0 < len → a0 = some ⟨b, o, none⟩) ∧ (0 < len → b < W.heap.size) ∧ (∀ i, i < len → W.cell? ⟨b, o + i, none⟩ = some (.int .i32 (P i))) ∧ ∀ i, I32 (P i) := by
  have hz : I32 0 := ⟨by decide, by decide⟩
  rcases open_ints Yba.underlying23 Yba.underlying21 Yba.cells21 hf with ⟨hcs, _⟩ | ⟨a, l, c, zs, hcs, _, hl, hm, hzl, _, hcell, hwz⟩
  · simp at hcs
    obtain ⟨_, rfl, _⟩ := hcs
    exact ⟨Nat.zero_le _, 0, 0, fun _ => 0, fun h => absurd h (by omega), fun h => absurd h (by omega), fun i h => absurd h (by omega), fun _ => hz⟩
  · simp at hcs
    obtain ⟨rfl, rfl, rfl⟩ := hcs
    by_cases h0 : len = 0
    · subst h0
      exact ⟨Nat.zero_le _, 0, 0, fun _ => 0, fun h => absurd h (by omega), fun h => absurd h (by omega), fun i h => absurd h (by omega), fun _ => hz⟩
    simp at hzl
    obtain ⟨b, o, spot⟩ := a
    have hspot : spot = none := by simpa [Addr.add] using World.cell?_spot (hcell 0 (by omega))
    subst hspot
    refine ⟨by omega, b, o, fun i => zs.getD i 0, fun _ => rfl, fun _ => ?_, fun i hi => ?_, fun i => ?_⟩
    · have h := block_lt_of_cell (hcell 0 (by omega)); rw [add_plain] at h; exact h
    · rw [← add_plain]; exact hcell i (by omega)
    · by_cases hi : i < zs.length
      · have hmem : zs.getD i 0 ∈ zs := by rw [List.getD_eq_getElem?_getD, List.getElem?_eq_getElem hi]; exact List.getElem_mem hi
        exact bounds_i32 (hwz _ hmem)
      · have e : zs.getD i 0 = 0 := by rw [List.getD_eq_getElem?_getD, List.getElem?_eq_none (by omega)]; rfl
        show I32 (zs.getD i 0)
        rw [e]; exact hz
end Go.Proofs.Ybulkaage
