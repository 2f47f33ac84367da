import Derived.Test.YbulkaageBRange
namespace Go.Proofs.Ybulkaage
open Go.RowKit

/-- No arc with room costs less than 0 at p, nor its sister, among the first j. -/
def okF (A : Arcs) (f : Nat → Int) (p : Int) : Nat → Bool
  | 0 => true
  | j + 1 => if 0 < A.r j ∧ p < f j ∨ 0 < A.s j ∧ f j < p then false else okF A f p j

theorem ok_eq {A : Arcs} {f : Nat → Int} {p : Int} {j : Nat} {b : Bool} {a : Int} (e : okF A f p j = b) (ea : f j = a) : okF A f p (j + 1) = if 0 < A.r j ∧ p < a ∨ 0 < A.s j ∧ a < p then false else b := by rw [← e, ← ea]; rfl

/-- THE PLAIN LAW: p lies within the bounds exactly where every arc is content at p. -/
theorem fits_iff (A : Arcs) (f : Nat → Int) (p : Int) (h1 : -9223372036854775808 ≤ p) (h2 : p ≤ 9223372036854775807) (j : Nat) :
    (decide (loF A f j ≤ p) && decide (p ≤ hiF A f j)) = okF A f p j := by
  induction j with
  | zero => simp [loF, hiF, okF, h1, h2]
  | succ j ih =>
    have e1 : loF A f (j + 1) = if 0 < A.r j ∧ loF A f j < f j then f j else loF A f j := rfl
    have e2 : hiF A f (j + 1) = if 0 < A.s j ∧ f j < hiF A f j then f j else hiF A f j := rfl
    rw [ok_eq ih.symm rfl, e1, e2, Bool.eq_iff_iff]
    generalize loF A f j = lo
    generalize hiF A f j = hi
    split <;> split <;> split <;> simp <;> omega

set_option maxRecDepth 100000 in
set_option maxHeartbeats 2000000 in
theorem fits_main (own p : Int) (pa : Option Addr) (pb po np pcap : Nat) (P : Nat → Int) (aa : Option Addr) (ab ao k acap : Nat) (A : Arcs) (w : World) (m : Nat)
    (h1 : np ≤ 1024) (h2 : k ≤ 1024) (hm : m = np ∧ 1 ≤ np ∨ m = 1 ∧ np = 0) (hown : I32 own) (hp1 : -9223372036854775808 ≤ p) (hp2 : p ≤ 9223372036854775807)
    (hpa : 0 < np → pa = some ⟨pb, po, none⟩) (hpb : 0 < np → pb < w.heap.size) (hpc : ∀ i, i < np → w.cell? ⟨pb, po + i, none⟩ = some (.int .i32 (P i))) (hP : ∀ i, I32 (P i))
    (haa : 0 < k → aa = some ⟨ab, ao, none⟩) (hab : 0 < k → ab < w.heap.size) (hac : ArcCells w ab ao k A) (hA : A.Ok) :
    Calls Yba.prog 6 #[.int .i32 own, .slice pa np pcap, .slice aa k acap, .int .i64 p] w fun e w' => e = .returned (.bool true) ∧ Below w.heap.size w w' := by
  have hm1 : 1 ≤ m := by omega
  have hm2 : m ≤ 1024 := by omega
  have hm3 : np ≤ m := by omega
  have g1 : decide ((1024 : Int) < (np : Int)) = false := decide_eq_false (by omega)
  have g2 : decide ((1024 : Int) < (k : Int)) = false := decide_eq_false (by omega)
  have HAA : Hid (0 < k → aa = some ⟨ab, ao, none⟩) := haa
  have HPA : Hid (0 < np → pa = some ⟨pb, po, none⟩) := hpa
  have HAB : Hid _ := hab
  have HPB : Hid _ := hpb
  clear haa hpa hab hpb
  go_enter Yba.func6, Yba.ntmps6
  go_wp2_with fail
  refine (bbuild_any own pa pb po np pcap P aa ab ao k acap A w m h1 h2 hm hown hm3 HPA.out HPB.out hpc hP HAA.out HAB.out hac hA).mono ?_
  rintro e w1 ⟨N, hN, rfl, hnet, hb1⟩
  go_wp2_with fail
  refine (range_any own P w.heap.size N np m k A w1 h2 hm1 hm2 hown hP hA hnet).mono ?_
  rintro e w2 ⟨rfl, n0, rfl⟩
  obtain ⟨LO, eLO⟩ : ∃ LO, loF A (atOf own np m P A) k = LO := ⟨_, rfl⟩
  obtain ⟨HI, eHI⟩ : ∃ HI, hiF A (atOf own np m P A) k = HI := ⟨_, rfl⟩
  rw [eLO, eHI]
  obtain ⟨ib, eib⟩ : ∃ ib, (decide (LO ≤ p) && decide (p ≤ HI)) = ib := ⟨_, rfl⟩
  have hfin : okF A (atOf own np m P A) p k = ib := by rw [← fits_iff A _ p hp1 hp2 k, eLO, eHI, eib]
  have HIB : Hid _ := eib
  have HFIN : Hid _ := hfin
  clear eLO eHI hpc hm eib hfin
  go_upto_region 5 with fail
  go_cut [13] (fun s13 wc => s13 = .bool ib ∧ wc = w1.drewN n0)
  case first =>
    have e := HIB.out
    clear HIB HFIN
    subst e
    by_cases q1 : LO ≤ p
    · by_cases q2 : p ≤ HI
      · go_wp2
        go_meet
        case rel => exact ⟨by simp [q1, q2], rfl⟩
      · have d2 : decide (p ≤ HI) = false := decide_eq_false q2
        go_wp2
        go_meet
        case rel => exact ⟨by simp [q1, d2], rfl⟩
    · have d1 : decide (LO ≤ p) = false := decide_eq_false q1
      go_wp2
      go_meet
      case rel => exact ⟨by simp [d1], rfl⟩
  case rest =>
  obtain ⟨rfl, rfl⟩ := hcut
  clear HIB
  go_wp2
  go_loopw [14, 48] (fun ok i wr => ∃ j : Nat, j ≤ k ∧ i = .int .i64 j ∧ ok = .bool (okF A (atOf own np m P A) p j) ∧ Below w1.heap.size w1 wr)
    (fun _ i _ => k - (intOf i).toNat)
  case atStart => exact ⟨0, Nat.zero_le _, rfl, rfl, below_drewN (Below.refl _ _) _⟩
  case round =>
    obtain ⟨j, hj, rfl, rfl, hbel⟩ := hrel
    by_cases hlt : j < k
    · obtain rfl : aa = some ⟨ab, ao, none⟩ := HAA.out (by omega)
      have hab := HAB.out (by omega)
      have hs1 := hb1.size
      have cell2 : ∀ p v, w1.cell? p = some v → wr.cell? p = some v := fun p v e => (hbel.cell (block_lt_of_cell e)).trans e
      have x0 : wr.cell? ⟨ab, ao + j * 4, none⟩ = _ := cell2 _ _ ((hb1.cell (by exact hab)).trans (hac.h j hlt))
      have x1 : wr.cell? ⟨ab, ao + j * 4 + 1, none⟩ = _ := cell2 _ _ ((hb1.cell (by exact hab)).trans (hac.r j hlt))
      have x2 : wr.cell? ⟨ab, ao + j * 4 + 2, none⟩ = _ := cell2 _ _ ((hb1.cell (by exact hab)).trans (hac.s j hlt))
      have x3 : wr.cell? ⟨ab, ao + j * 4 + 3, none⟩ = _ := cell2 _ _ ((hb1.cell (by exact hab)).trans (hac.c j hlt))
      obtain ⟨h, eh, hh⟩ := head_bd (A := A) hm1 j
      have a0 := cell2 _ _ (hnet.heads j hlt)
      have a1 := cell2 _ _ (hnet.price h hh)
      have a2 := cell2 _ _ hnet.cPrice
      rw [eh] at a0
      have l0 : w.heap.size < wr.heap.size := block_lt_of_cell a1
      have l1 : w.heap.size + 1 + 1 < wr.heap.size := block_lt_of_cell a0
      have l2 : N + 1 + 1 < wr.heap.size := block_lt_of_cell a2
      obtain ⟨b1, b2⟩ := priceAt_bd (np := np) hown hP h
      obtain ⟨b3, b4⟩ := hA.c j
      have eat : atOf own np m P A j = priceAt own np P h - A.c j := by unfold atOf; rw [eh]; rfl
      obtain ⟨ok, eok⟩ : ∃ ok, okF A (atOf own np m P A) p j = ok := ⟨_, rfl⟩
      have HOK : Hid _ := ok_eq eok eat
      rw [eok]
      clear eok eat eh hnet hA hP hown hac cell2 HFIN HAA HAB HPA HPB
      obtain ⟨pv, epv⟩ : ∃ pv, priceAt own np P h = pv := ⟨_, rfl⟩
      rw [epv] at a1 b1 b2 HOK
      clear epv
      go_wp2
      go_quiet (fail)
      go_wp2
      all_goals
        go_roundw
        case rel => exact ⟨j + 1, by omega, by go_num, by rw [HOK.out]; first | rw [if_pos (by omega)] | rw [if_neg (by omega)], below_drewN (hbel.alloc hbel.size _) _⟩
        case measure => simp [intOf]; omega
    · have ej : k = j := by omega
      subst ej
      have e1 := HFIN.out
      rw [e1]
      clear e1
      have cell2 : ∀ p v, w1.cell? p = some v → wr.cell? p = some v := fun p v e => (hbel.cell (block_lt_of_cell e)).trans e
      have a1 := cell2 _ _ (hnet.price 0 (by omega))
      have a2 := cell2 _ _ hnet.cPrice
      simp only [priceAt] at a1
      obtain ⟨o1, o2⟩ := hown
      clear cell2 hnet hA hP hac HFIN HAA HAB HPA HPB
      go_wp2
      go_ret
      exact ⟨by simp, hb1.trans (hbel.mono hb1.size)⟩
end Go.Proofs.Ybulkaage
