import Derived.Test.YbulkaageBWalks
namespace Go.Proofs.Ybulkaage
open Go.RowKit

/-- The price at which arc q costs 0. -/
def atOf (own : Int) (np m : Nat) (P : Nat → Int) (A : Arcs) (q : Nat) : Int := priceAt own np P (headOf m A q).toNat - A.c q

/-- The greatest of the 'at's of the first j arcs with room. -/
def loF (A : Arcs) (f : Nat → Int) : Nat → Int
  | 0 => -9223372036854775808
  | j + 1 => if 0 < A.r j ∧ loF A f j < f j then f j else loF A f j

/-- The least of the 'at's of the first j arcs whose sister has room. -/
def hiF (A : Arcs) (f : Nat → Int) : Nat → Int
  | 0 => 9223372036854775807
  | j + 1 => if 0 < A.s j ∧ f j < hiF A f j then f j else hiF A f j

theorem lo_ge (A : Arcs) (f : Nat → Int) (j : Nat) : -9223372036854775808 ≤ loF A f j := by
  induction j with
  | zero => simp [loF]
  | succ j ih => unfold loF; split <;> omega
theorem hi_le (A : Arcs) (f : Nat → Int) (j : Nat) : hiF A f j ≤ 9223372036854775807 := by
  induction j with
  | zero => simp [hiF]
  | succ j ih => unfold hiF; split <;> omega

theorem lo_yes {A : Arcs} {f : Nat → Int} {j : Nat} (h : 0 < A.r j) : loF A f (j + 1) = if loF A f j < f j then f j else loF A f j := by simp [loF, h]
theorem lo_no {A : Arcs} {f : Nat → Int} {j : Nat} (h : A.r j ≤ 0) : loF A f (j + 1) = loF A f j := by simp [loF, show ¬ 0 < A.r j by omega]
theorem hi_yes {A : Arcs} {f : Nat → Int} {j : Nat} (h : 0 < A.s j) : hiF A f (j + 1) = if f j < hiF A f j then f j else hiF A f j := by simp [hiF, h]
theorem hi_no {A : Arcs} {f : Nat → Int} {j : Nat} (h : A.s j ≤ 0) : hiF A f (j + 1) = hiF A f j := by simp [hiF, show ¬ 0 < A.s j by omega]

theorem priceAt_bd {own : Int} {np : Nat} {P : Nat → Int} (ho : I32 own) (hP : ∀ i, I32 (P i)) (i : Nat) : I32 (priceAt own np P i) := by
  cases i with
  | zero => exact ho
  | succ i =>
    show I32 (if i < np then P i else 0)
    by_cases e : i < np
    · rw [if_pos e]; exact hP i
    · rw [if_neg e]; exact ⟨by decide, by decide⟩

theorem head_bd {m : Nat} {A : Arcs} (hm : 1 ≤ m) (q : Nat) : ∃ h : Nat, headOf m A q = (h : Int) ∧ h ≤ m := by
  have z0 := Int.emod_nonneg (A.h q) (show (m : Int) ≠ 0 by omega)
  have z1 := Int.emod_lt_of_pos (A.h q) (show (0 : Int) < (m : Int) by omega)
  refine ⟨(headOf m A q).toNat, ?_, ?_⟩ <;> (unfold headOf; omega)

set_option maxRecDepth 100000 in
set_option maxHeartbeats 1000000 in
theorem range_any (own : Int) (P : Nat → Int) (B N np m k : Nat) (A : Arcs) (w : World) (hk : k ≤ 1024) (hm : 1 ≤ m) (_hm2 : m ≤ 1024) (ho : I32 own) (hP : ∀ i, I32 (P i)) (hA : A.Ok) (hn : BNet w B N np m k own P A) :
    Calls Yba.prog 14 #[.pointer (some ⟨N + 1 + 1, 0, none⟩), .int .i64 0] w fun e w' =>
      e = .returned (.tuple #[.int .i64 (loF A (atOf own np m P A) k), .int .i64 (hiF A (atOf own np m P A) k)]) ∧ ∃ n, w' = w.drewN n := by
  have c1 := hn.cFirst
  have c2 := hn.cEnd
  have c3 := hn.cSlots
  have c4 := hn.cPrice
  have c5 := hn.first
  have c6 := hn.fin
  go_enter Yba.func14, Yba.ntmps14
  go_wp2
  go_loopw [4, 5, 6] (fun lo hi i wr => ∃ j n : Nat, j ≤ k ∧ i = .int .i32 j ∧ lo = .int .i64 (loF A (atOf own np m P A) j) ∧ hi = .int .i64 (hiF A (atOf own np m P A) j) ∧ wr = w.drewN n)
    (fun _ _ i _ => k - (intOf i).toNat)
  case atStart => exact ⟨0, 0, Nat.zero_le _, rfl, rfl, rfl, rfl⟩
  case round =>
    obtain ⟨j, n, hj, rfl, rfl, rfl, rfl⟩ := hrel
    by_cases hlt : j < k
    · obtain ⟨h, eh, hh⟩ := head_bd (A := A) hm j
      have a0 := hn.sHead j hlt
      have a1 := hn.sSister j hlt
      have a2 := hn.sRoom j hlt
      have a3 := hn.sCost j hlt
      have a4 := hn.tRoom j hlt
      have a5 := hn.price h hh
      rw [eh] at a0
      obtain ⟨b1, b2⟩ := priceAt_bd (np := np) ho hP h
      obtain ⟨b3, b4⟩ := hA.c j
      have b5 := lo_ge A (atOf own np m P A) j
      have b6 := hi_le A (atOf own np m P A) j
      have eat : atOf own np m P A j = priceAt own np P h - A.c j := by unfold atOf; rw [eh]; rfl
      obtain ⟨lo, elo⟩ : ∃ lo, loF A (atOf own np m P A) j = lo := ⟨_, rfl⟩
      obtain ⟨hi, ehi⟩ : ∃ hi, hiF A (atOf own np m P A) j = hi := ⟨_, rfl⟩
      rw [elo] at b5
      rw [ehi] at b6
      rw [elo, ehi]
      have HLO : Hid _ := elo
      have HHI : Hid _ := ehi
      have HAT : Hid _ := eat
      have HEH : Hid _ := eh
      clear elo ehi eat eh hn hA hP ho
      obtain ⟨pv, epv⟩ : ∃ pv, priceAt own np P h = pv := ⟨_, rfl⟩
      rw [epv] at a5 b1 b2
      have HPV : Hid _ := epv
      clear epv
      by_cases hr : 0 < A.r j
      · by_cases hs : 0 < A.s j
        · go_wp2
          go_quiet (fail)
          go_wp2
          go_quiet (fail)
          go_wp2
          go_roundw
          case rel => exact ⟨j + 1, _, by omega, by go_num, by first | rw [lo_yes hr, HLO.out, HAT.out, HPV.out] | rw [lo_yes hr, HLO.out] | rw [lo_yes hr, HLO.out, if_neg (by omega)], by first | rw [hi_yes hs, HHI.out, HAT.out, HPV.out] | rw [hi_yes hs, HHI.out] | rw [hi_yes hs, HHI.out, if_neg (by omega)], rfl⟩
          case measure => simp [intOf]; omega
        · go_wp2
          go_quiet (fail)
          go_wp2
          go_quiet (fail)
          go_wp2
          go_roundw
          case rel => exact ⟨j + 1, _, by omega, by go_num, by first | rw [lo_yes hr, HLO.out, HAT.out, HPV.out] | rw [lo_yes hr, HLO.out] | rw [lo_yes hr, HLO.out, if_neg (by omega)], by first | rw [hi_no hs, HHI.out, HAT.out, HPV.out] | rw [hi_no hs, HHI.out] | rw [hi_no hs, HHI.out, if_neg (by omega)], rfl⟩
          case measure => simp [intOf]; omega
      · by_cases hs : 0 < A.s j
        · go_wp2
          go_quiet (fail)
          go_wp2
          go_quiet (fail)
          go_wp2
          go_roundw
          case rel => exact ⟨j + 1, _, by omega, by go_num, by first | rw [lo_no hr, HLO.out, HAT.out, HPV.out] | rw [lo_no hr, HLO.out] | rw [lo_no hr, HLO.out, if_neg (by omega)], by first | rw [hi_yes hs, HHI.out, HAT.out, HPV.out] | rw [hi_yes hs, HHI.out] | rw [hi_yes hs, HHI.out, if_neg (by omega)], rfl⟩
          case measure => simp [intOf]; omega
        · go_wp2
          go_quiet (fail)
          go_wp2
          go_quiet (fail)
          go_wp2
          go_roundw
          case rel => exact ⟨j + 1, _, by omega, by go_num, by first | rw [lo_no hr, HLO.out, HAT.out, HPV.out] | rw [lo_no hr, HLO.out] | rw [lo_no hr, HLO.out, if_neg (by omega)], by first | rw [hi_no hs, HHI.out, HAT.out, HPV.out] | rw [hi_no hs, HHI.out] | rw [hi_no hs, HHI.out, if_neg (by omega)], rfl⟩
          case measure => simp [intOf]; omega
    · have ej : k = j := by omega
      subst ej
      clear hn
      go_wp2
      go_ret2
      exact ⟨rfl, n, rfl⟩
end Go.Proofs.Ybulkaage
