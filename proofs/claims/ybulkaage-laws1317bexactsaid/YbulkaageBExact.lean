import Derived.Test.YbulkaageBRange
namespace Go.Proofs.Ybulkaage
open Go.RowKit

theorem lo_eq {A : Arcs} {f : Nat → Int} {j : Nat} {lo a : Int} (e : loF A f j = lo) (ea : f j = a) : loF A f (j + 1) = if 0 < A.r j ∧ lo < a then a else lo := by rw [← e, ← ea]; rfl
theorem hi_eq {A : Arcs} {f : Nat → Int} {j : Nat} {hi a : Int} (e : hiF A f j = hi) (ea : f j = a) : hiF A f (j + 1) = if 0 < A.s j ∧ a < hi then a else hi := by rw [← e, ← ea]; rfl

set_option maxRecDepth 100000 in
set_option maxHeartbeats 2000000 in
theorem exact_main (own : Int) (pa : Option Addr) (pb po np pcap : Nat) (P : Nat → Int) (aa : Option Addr) (ab ao k acap : Nat) (A : Arcs) (w : World) (m : Nat)
    (h1 : np ≤ 1024) (h2 : k ≤ 1024) (hm : m = np ∧ 1 ≤ np ∨ m = 1 ∧ np = 0) (hown : I32 own)
    (hpa : 0 < np → pa = some ⟨pb, po, none⟩) (hpb : 0 < np → pb < w.heap.size) (hpc : ∀ i, i < np → w.cell? ⟨pb, po + i, none⟩ = some (.int .i32 (P i))) (hP : ∀ i, I32 (P i))
    (haa : 0 < k → aa = some ⟨ab, ao, none⟩) (hab : 0 < k → ab < w.heap.size) (hac : ArcCells w ab ao k A) (hA : A.Ok) :
    Calls Yba.prog 5 #[.int .i32 own, .slice pa np pcap, .slice aa k acap] w fun e w' => e = .returned (.bool true) ∧ Below w.heap.size w w' := by
  have hm1 : 1 ≤ m := by omega
  have hm2 : m ≤ 1024 := by omega
  have hm3 : np ≤ m := by omega
  have g1 : decide ((1024 : Int) < (np : Int)) = false := decide_eq_false (by omega)
  have g2 : decide ((1024 : Int) < (k : Int)) = false := decide_eq_false (by omega)
  have HAA : Hid (0 < k → aa = some ⟨ab, ao, none⟩) := haa
  have HPA : Hid (0 < np → pa = some ⟨pb, po, none⟩) := hpa
  have HAB : Hid _ := hab
  have HPB : Hid _ := hpb
  clear haa hpa hab hpb
  go_enter Yba.func5, Yba.ntmps5
  go_wp2_with fail
  refine (bbuild_any own pa pb po np pcap P aa ab ao k acap A w m h1 h2 hm hown hm3 HPA.out HPB.out hpc hP HAA.out HAB.out hac hA).mono ?_
  rintro e w1 ⟨N, hN, rfl, hnet, hb1⟩
  go_wp2_with fail
  refine (range_any own P w.heap.size N np m k A w1 h2 hm1 hm2 hown hP hA hnet).mono ?_
  rintro e w2 ⟨rfl, n0, rfl⟩
  obtain ⟨LO, eLO⟩ : ∃ LO, loF A (atOf own np m P A) k = LO := ⟨_, rfl⟩
  obtain ⟨HI, eHI⟩ : ∃ HI, hiF A (atOf own np m P A) k = HI := ⟨_, rfl⟩
  rw [eLO, eHI]
  have HELO : Hid _ := eLO
  have HEHI : Hid _ := eHI
  clear eLO eHI hpc hm
  go_wp2
  go_loopw [11, 12, 38] (fun lo hi i wr => ∃ j : Nat, j ≤ k ∧ i = .int .i64 j ∧ lo = .int .i64 (loF A (atOf own np m P A) j) ∧ hi = .int .i64 (hiF A (atOf own np m P A) j) ∧ Below w1.heap.size w1 wr)
    (fun _ _ i _ => k - (intOf i).toNat)
  case atStart => exact ⟨0, Nat.zero_le _, rfl, rfl, rfl, below_drewN (Below.refl _ _) _⟩
  case round =>
    obtain ⟨j, hj, rfl, rfl, rfl, hbel⟩ := hrel
    by_cases hlt : j < k
    · obtain rfl : aa = some ⟨ab, ao, none⟩ := HAA.out (by omega)
      have hab := HAB.out (by omega)
      have hs1 := hb1.size
      have cell2 : ∀ p v, w1.cell? p = some v → wr.cell? p = some v := fun p v e => (hbel.cell (block_lt_of_cell e)).trans e
      have x0 : wr.cell? ⟨ab, ao + j * 4, none⟩ = _ := cell2 _ _ ((hb1.cell (by exact hab)).trans (hac.h j hlt))
      have x1 : wr.cell? ⟨ab, ao + j * 4 + 1, none⟩ = _ := cell2 _ _ ((hb1.cell (by exact hab)).trans (hac.r j hlt))
      have x2 : wr.cell? ⟨ab, ao + j * 4 + 2, none⟩ = _ := cell2 _ _ ((hb1.cell (by exact hab)).trans (hac.s j hlt))
      have x3 : wr.cell? ⟨ab, ao + j * 4 + 3, none⟩ = _ := cell2 _ _ ((hb1.cell (by exact hab)).trans (hac.c j hlt))
      obtain ⟨h, eh, hh⟩ := head_bd (A := A) hm1 j
      have a0 := cell2 _ _ (hnet.heads j hlt)
      have a1 := cell2 _ _ (hnet.price h hh)
      have a2 := cell2 _ _ hnet.cPrice
      rw [eh] at a0
      have l0 : w.heap.size < wr.heap.size := block_lt_of_cell a1
      have l1 : w.heap.size + 1 + 1 < wr.heap.size := block_lt_of_cell a0
      have l2 : N + 1 + 1 < wr.heap.size := block_lt_of_cell a2
      obtain ⟨b1, b2⟩ := priceAt_bd (np := np) hown hP h
      obtain ⟨b3, b4⟩ := hA.c j
      have eat : atOf own np m P A j = priceAt own np P h - A.c j := by unfold atOf; rw [eh]; rfl
      obtain ⟨lo, elo⟩ : ∃ lo, loF A (atOf own np m P A) j = lo := ⟨_, rfl⟩
      obtain ⟨hi, ehi⟩ : ∃ hi, hiF A (atOf own np m P A) j = hi := ⟨_, rfl⟩
      have HLO : Hid _ := lo_eq elo eat
      have HHI : Hid _ := hi_eq ehi eat
      rw [elo, ehi]
      clear elo ehi eat eh hnet hA hP hown hac cell2 HELO HEHI HAA HAB HPA HPB
      obtain ⟨pv, epv⟩ : ∃ pv, priceAt own np P h = pv := ⟨_, rfl⟩
      rw [epv] at a1 b1 b2 HLO HHI
      clear epv
      go_wp2
      go_quiet (fail)
      go_wp2
      all_goals
        go_roundw
        case rel => exact ⟨j + 1, by omega, by go_num, by rw [HLO.out]; first | rw [if_pos (by omega)] | rw [if_neg (by omega)], by rw [HHI.out]; first | rw [if_pos (by omega)] | rw [if_neg (by omega)], below_drewN (hbel.alloc hbel.size _) _⟩
        case measure => simp [intOf]; omega
    · have ej : k = j := by omega
      subst ej
      have e1 := HELO.out
      have e2 := HEHI.out
      rw [e1, e2]
      clear e1 e2
      go_wp2
      go_ret
      exact ⟨rfl, hb1.trans (hbel.mono hb1.size)⟩
end Go.Proofs.Ybulkaage
