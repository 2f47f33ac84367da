import Derived.Test.YbulkaageRows
import Derived.WalkKit
import Derived.WalkSpells
import Derived.Below
import Derived.Deep.OwnRows
import Derived.Deep.QuietTactic
import Derived.BigQuiet
import Derived.Outline
namespace Go.Proofs.Ybulkaage
open Go.RowKit

/-- The number of slots ahead of node k: the sum of the first k counts. -/
def pre (z : Nat → Int) : Nat → Int
  | 0 => 0
  | k + 1 => pre z k + z k

theorem pre_bd (z : Nat → Int) (hz : ∀ i, 0 ≤ z i ∧ z i ≤ 255) (k : Nat) : 0 ≤ pre z k ∧ pre z k ≤ 255 * k := by
  induction k with
  | zero => simp [pre]
  | succ k ih => have := hz k; simp only [pre]; omega

theorem Yba.info21 : (Yba.prog.info? 21).map (fun i => (i.zero, i.size, i.bytes)) = some (some (.int .i32 0), 1, 4) := by kernel_rfl

/-- The two rows of a network that is being built: the first k cells of each are laid. -/
structure Rows2 (w : World) (B len : Nat) (z : Nat → Int) (k : Nat) : Prop where
  first : w.rowIs B 21 len (fun i => if i < k then .int .i32 (pre z i) else .int .i32 0)
  fin : w.rowIs (B + 1) 21 len (fun i => if i < k then .int .i32 (pre z (i + 1)) else .int .i32 0)

theorem Rows2.step {w : World} {B len : Nat} {z : Nat → Int} {k : Nat} (h : Rows2 w B len z k) :
    Rows2 ((w.setCell ⟨B, k, none⟩ (.int .i32 (pre z k))).setCell ⟨B + 1, k, none⟩ (.int .i32 (pre z (k + 1)))) B len z (k + 1) := by
  refine ⟨?_, ?_⟩
  · refine ((h.first.set k _).setOther (by simp) _).congr fun i _ => ?_
    by_cases e : i = k
    · subst e; simp
    · by_cases e' : i < k
      · simp [e, e', show i < k + 1 by omega]
      · simp [e, e', show ¬ i < k + 1 by omega]
  · refine ((h.fin.setOther (by simp) _).set k _).congr fun i _ => ?_
    by_cases e : i = k
    · subst e; simp
    · by_cases e' : i < k
      · simp [e, e', show i < k + 1 by omega]
      · simp [e, e', show ¬ i < k + 1 by omega]

theorem Rows2.start (w : World) (len : Nat) (z : Nat → Int) :
    Rows2 ((w.alloc (.cells (madeCells #[.int .i32 0] len) 21)).alloc (.cells (madeCells #[.int .i32 0] len) 21)) w.heap.size len z 0 := by
  refine ⟨?_, ?_⟩
  · exact ((World.rowIs_made w _ len 21).alloc _).congr fun i _ => by simp
  · have h := World.rowIs_made (w.alloc (.cells (madeCells #[.int .i32 0] len) 21)) (.int .i32 0) len 21
    simp only [World.size_alloc] at h
    exact h.congr fun i _ => by simp

/-- The network that 'zzs1317cbuild' lays, its first block B. -/
structure Net (w : World) (B len : Nat) (z : Nat → Int) : Prop where
  cFirst : w.cell? ⟨B + 2, 1, none⟩ = some (.slice (some ⟨B, 0, none⟩) len len)
  cEnd : w.cell? ⟨B + 2, 2, none⟩ = some (.slice (some ⟨B + 1, 0, none⟩) len len)
  first : ∀ i, i < len → w.cell? ⟨B, i, none⟩ = some (.int .i32 (pre z i))
  fin : ∀ i, i < len → w.cell? ⟨B + 1, i, none⟩ = some (.int .i32 (pre z (i + 1)))

theorem net_of {w : World} {B len : Nat} {z : Nat → Int} (h : Rows2 w B len z len) (hs : w.heap.size = B + 2) (c : Array Value)
    (h1 : c[1]? = some (.slice (some ⟨B, 0, none⟩) len len)) (h2 : c[2]? = some (.slice (some ⟨B + 1, 0, none⟩) len len)) : Net (w.alloc (.cells c 49)) B len z := by
  refine ⟨?_, ?_, fun i hi => ?_, fun i hi => ?_⟩
  · rw [World.cell?_alloc_at (w := w) c 49 (B + 2) 1 hs.symm, h1]
  · rw [World.cell?_alloc_at (w := w) c 49 (B + 2) 2 hs.symm, h2]
  · rw [(h.first.alloc _).cell hi, if_pos hi]
  · rw [(h.fin.alloc _).cell hi, if_pos hi]

set_option maxHeartbeats 400000 in
theorem build_any (z : Nat → Int) (b off len cap : Nat) (w : World) (h1 : 1 ≤ len) (h2 : len ≤ 1024) (hb : b < w.heap.size)
    (hc : ∀ i, i < len → w.cell? ⟨b, off + i, none⟩ = some (.int .u8 (z i))) (hz : ∀ i, 0 ≤ z i ∧ z i ≤ 255) :
    Calls Yba.prog 15 #[.slice (some ⟨b, off, none⟩) len cap] w fun e w' =>
      e = .returned (.pointer (some ⟨w.heap.size + 2, 0, none⟩)) ∧ Net w' w.heap.size len z ∧ Below w.heap.size w w' := by
  have hmk := run_make_row' (P := Yba.prog) 23 21 (.int .i32 0) 4 Yba.underlying23 Yba.info21 rfl .i64 .i64 len (by omega) (by omega)
  have hst := Rows2.start w len z
  have HST : Hid (Rows2 ((w.alloc (.cells (madeCells #[.int .i32 0] len) 21)).alloc (.cells (madeCells #[.int .i32 0] len) 21)) w.heap.size len z 0) := hst
  clear hst
  go_enter Yba.func15, Yba.ntmps15
  go_wp2
  go_loopw [6, 17] (fun a i wr => ∃ k : Nat, k ≤ len ∧ i = .int .i64 k ∧ a = .int .i32 (pre z k) ∧ Rows2 wr w.heap.size len z k ∧ Below w.heap.size w wr ∧ wr.heap.size = w.heap.size + 2)
    (fun _ i _ => len - (intOf i).toNat)
  case atStart => exact ⟨0, Nat.zero_le _, rfl, rfl, HST.out, ((Below.refl _ _).alloc (Nat.le_refl _) _).alloc (by simp) _, by simp⟩
  case round =>
    obtain ⟨k, hk, rfl, rfl, hrows, hbel, hsz⟩ := hrel
    have hbd := pre_bd z hz k
    have hzk := hz k
    by_cases hlt : k < len
    · have hcx : wr.cell? ⟨b, off + k, none⟩ = some (.int .u8 (z k)) := (hbel.cell (by exact hb)).trans (hc k hlt)
      have e1 := hrows.first.cell hlt
      have e2 := hrows.fin.cell hlt
      have f1 := hrows.first.frozen k
      have f2 := hrows.fin.frozen k
      simp only [Nat.lt_irrefl, if_false] at e1 e2
      have R := hrows.step
      have HR : Hid (Rows2 ((wr.setCell ⟨w.heap.size, k, none⟩ (.int .i32 (pre z k))).setCell ⟨w.heap.size + 1, k, none⟩ (.int .i32 (pre z (k + 1)))) w.heap.size len z (k + 1)) := R
      clear R hrows
      have HS : Hid (wr.heap.size = w.heap.size + 2) := hsz
      clear hsz HST hmk
      go_wp2
      go_roundw
      case rel => exact ⟨k + 1, by omega, by go_num, rfl, HR.out, (hbel.setCell (by simp) _).setCell (by simp) _, by simp [HS.out]⟩
      case measure => simp [intOf]; omega
    · have ek : k = len := by omega
      subst ek
      have HN : Hid (∀ c : Array Value, c[1]? = some (.slice (some ⟨w.heap.size, 0, none⟩) k k) → c[2]? = some (.slice (some ⟨w.heap.size + 1, 0, none⟩) k k) → Net (wr.alloc (.cells c 49)) w.heap.size k z) := fun c c1 c2 => net_of hrows hsz c c1 c2
      clear hrows HST
      go_wp2
      go_ret
      exact ⟨rfl, HN.out _ rfl rfl, hbel.alloc (by omega) _⟩

/-- What 'lesser' answers. -/
def lessZ (z : Nat → Int) (u v : Int) : Int := if z v.toNat < z u.toNat then v else u

theorem lesser_any (z : Nat → Int) (B len : Nat) (u v : Int) (w : World) (hz : ∀ i, 0 ≤ z i ∧ z i ≤ 255) (_h2 : len ≤ 1024) (hu0 : 0 ≤ u) (hu : u < len) (hv0 : 0 ≤ v) (hv : v < len) (hn : Net w B len z) :
    Calls Yba.prog 16 #[.pointer (some ⟨B + 2, 0, none⟩), .int .i64 u, .int .i64 v] w fun e w' => e = .returned (.int .i64 (lessZ z u v)) ∧ ∃ n, w' = w.drewN n := by
  obtain ⟨u, rfl⟩ := Int.eq_ofNat_of_zero_le hu0
  obtain ⟨v, rfl⟩ := Int.eq_ofNat_of_zero_le hv0
  have c1 := hn.cFirst
  have c2 := hn.cEnd
  have a1 := hn.first u (by omega)
  have a2 := hn.fin u (by omega)
  have a3 := hn.first v (by omega)
  have a4 := hn.fin v (by omega)
  have b1 := pre_bd z hz u
  have b2 := pre_bd z hz v
  have b3 := hz u
  have b4 := hz v
  simp only [pre] at a2 a4
  clear hn hz
  unfold lessZ
  simp only [Int.toNat_natCast]
  by_cases hlt : z v < z u
  · rw [if_pos hlt]
    go_enter Yba.func16, Yba.ntmps16
    go_wp2
    go_quiet (fail)
    go_wp2
    go_ret
    exact ⟨rfl, _, rfl⟩
  · rw [if_neg hlt]
    go_enter Yba.func16, Yba.ntmps16
    go_wp2
    go_quiet (fail)
    go_wp2
    go_ret
    exact ⟨rfl, _, rfl⟩
end Go.Proofs.Ybulkaage
