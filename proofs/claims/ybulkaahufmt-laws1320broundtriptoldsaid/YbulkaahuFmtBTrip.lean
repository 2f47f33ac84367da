import Derived.Test.YbulkaahuFmtBRead
import Derived.Test.YbulkaahuFmtBPlain
import Derived.Test.YbulkaahuFmtBApp
import Derived.Deep.RegionHeld3
import Derived.Deep.LoopGhost
import Derived.Deep.DrawnRows
namespace Go.Proofs.YbulkaahuFmt
open Go.RowKit

/-- The varints of the first j numbers, one after another. -/
def enc (x : Nat → Nat) : Nat → List UInt8
  | 0 => []
  | j + 1 => enc x j ++ Lib.uvarint (x j)

theorem enc_len (x : Nat → Nat) (hx : ∀ i, x i < 18446744073709551616) (j : Nat) : (enc x j).length ≤ 10 * j := by
  induction j with
  | zero => simp [enc]
  | succ j ih => have := Lib.uvarint_length64 (hx j); simp only [enc, List.length_append]; omega

theorem enc_pos (x : Nat → Nat) (j : Nat) (hj : 1 ≤ j) : 1 ≤ (enc x j).length := by
  obtain ⟨i, rfl⟩ : ∃ i, j = i + 1 := ⟨j - 1, by omega⟩
  have := Lib.uvarint_pos (x i)
  simp only [enc, List.length_append]; omega

theorem enc_split (x : Nat → Nat) (n j : Nat) (hj : j < n) : ∃ rest, enc x n = enc x j ++ (Lib.uvarint (x j) ++ rest) := by
  induction n with
  | zero => omega
  | succ n ih =>
    by_cases e : j = n
    · subst e; exact ⟨[], by simp [enc]⟩
    · obtain ⟨rest, h⟩ := ih (by omega)
      exact ⟨rest ++ Lib.uvarint (x n), by simp [enc, h]⟩

/-- The bytes as numbers. -/
def byteF (l : List UInt8) (i : Nat) : Int := ((l.getD i 0).toNat : Int)
theorem byteF_lo (l : List UInt8) (i : Nat) : 0 ≤ byteF l i := by unfold byteF; omega
theorem byteF_hi (l : List UInt8) (i : Nat) : byteF l i ≤ 255 := by unfold byteF; have := (l.getD i 0).toNat_lt; omega

/-- Number j's varint, where it lies among all. -/
theorem enc_at (x : Nat → Nat) (n j : Nat) (hj : j < n) (i : Nat) (hi : i < (Lib.uvarint (x j)).length) : byteF (enc x n) ((enc x j).length + i) = (((Lib.uvarint (x j)).getD i 0).toNat : Int) := by
  obtain ⟨rest, h⟩ := enc_split x n j hj
  unfold byteF
  rw [h]
  simp only [List.getD_eq_getElem?_getD]
  rw [List.getElem?_append_right (by omega), List.getElem?_append_left (by omega)]
  simp

theorem enc_le (x : Nat → Nat) (n j : Nat) (hj : j < n) : (enc x j).length + (Lib.uvarint (x j)).length ≤ (enc x n).length := by
  obtain ⟨rest, h⟩ := enc_split x n j hj
  rw [h]
  simp only [List.length_append]; omega

theorem ReaderAt.step {w : World} {R g o L cap off : Nat} {d : Nat → Int} (h : ReaderAt w R g o L cap off d) (hg : g ≠ R) (m off' : Nat) (z : Int) (hz : z = (off' : Int)) : ReaderAt ((w.drewN m).setCell ⟨R, 1, none⟩ (.int .i64 z)) R g o L cap off' d := by
  subst hz
  have hsz : R < w.heap.size := block_lt_of_cell h.cData
  have other : ∀ p : Addr, p ≠ ⟨R, 1, none⟩ → ((w.drewN m).setCell ⟨R, 1, none⟩ (.int .i64 off')).cell? p = w.cell? p := fun p hp => World.cell?_setCell_other (w.drewN m) _ _ _ (Ne.symm hp)
  refine ⟨?_, ?_, ?_, ?_, fun i hi => ?_, h.lo, h.hi⟩
  · rw [other _ (by simp)]; exact h.cData
  · exact World.cell?_setCell_same (w.drewN m) _ _ h.cOff
  · rw [other _ (by simp)]; exact h.cErr
  · exact (World.frozen?_setCell _ _ _ _).trans h.free
  · rw [other _ (fun e => hg (congrArg Addr.block e))]; exact h.cell i hi

/-- What the bytes' slice is, once something is written. -/
theorem row_shape {w : World} {B n : Nat} {v : Value} {l : List UInt8} (h : w.ownsRow B 5 1 v n (Lib.byteCells l)) (hn : l.length = n) (hpos : 1 ≤ n) :
    ∃ g cap, v = .slice (some ⟨g, 0, none⟩) n cap ∧ B ≤ g ∧ g < w.heap.size ∧ n ≤ cap ∧ cap ≤ maxLen ∧ ∀ i, i < n → w.cell? ⟨g, 0 + i, none⟩ = some (.int .u8 (byteF l i)) := by
  rcases h.2 with ⟨_, h0⟩ | ⟨g, cap, cur, rfl, hg, hh, hnc, hcm, _, _⟩
  · omega
  · refine ⟨g, cap, rfl, hg, (Array.getElem?_eq_some_iff.1 hh).1, hnc, hcm, fun i hi => ?_⟩
    rw [Nat.zero_add, h.cellAt i (by omega)]
    simp only [Lib.byteCells, byteF, List.getElem?_map, List.getD_eq_getElem?_getD]
    rw [List.getElem?_eq_getElem (by omega)]
    simp

/-- NewReader. -/
theorem new_any (a : Option Addr) (n c : Nat) (w : World) : Calls Ybaf.prog 13 #[.slice a n c] w fun e w' => e = .returned (.pointer (some ⟨w.heap.size, 0, none⟩)) ∧ w' = w.alloc (.cells #[.slice a n c, .int .i64 0, .nilIface] 48) := by
  go_enter Ybaf.func13, Ybaf.ntmps13
  go_wp2
  go_ret
  exact ⟨rfl, rfl⟩

theorem reader_new {w : World} {g L cap : Nat} {d : Nat → Int} (hg : g < w.heap.size) (hcells : ∀ i, i < L → w.cell? ⟨g, 0 + i, none⟩ = some (.int .u8 (d i))) (hlo : ∀ i, 0 ≤ d i) (hhi : ∀ i, d i ≤ 255) :
    ReaderAt (w.alloc (.cells #[.slice (some ⟨g, 0, none⟩) L cap, .int .i64 0, .nilIface] 48)) w.heap.size g 0 L cap 0 d := by
  refine ⟨?_, ?_, ?_, ?_, fun i hi => ?_, hlo, hhi⟩
  · rw [World.cell?_alloc_at _ _ _ _ rfl]; rfl
  · rw [World.cell?_alloc_at _ _ _ _ rfl]; rfl
  · rw [World.cell?_alloc_at _ _ _ _ rfl]; rfl
  · simp
  · exact (World.cell?_alloc_past _ _ _ hg).trans (hcells i hi)

attribute [local go_sem ↓] Go.wp_at_zero Go.wp_at_succ

set_option maxRecDepth 100000 in
set_option maxHeartbeats 2000000 in
theorem trip_main (x : Nat → Nat) (b off len cap : Nat) (w : World) (h1 : 1 ≤ len) (h2 : len ≤ 256) (hb : b < w.heap.size) (hx : ∀ i, x i < 18446744073709551616)
    (hc : ∀ i, i < len → w.cell? ⟨b, off + i, none⟩ = some (.int .u64 (x i))) :
    Calls Ybaf.prog 6 #[.slice (some ⟨b, off, none⟩) len cap] w fun e w' => e = .returned (.bool true) ∧ Below w.heap.size w w' := by
  have g1 : decide ((256 : Int) < (len : Int)) = false := decide_eq_false (by omega)
  go_enter Ybaf.func6, Ybaf.ntmps6
  go_wp2
  go_loopw [3, 4] (fun v i wr => ∃ j : Nat, j ≤ len ∧ i = .int .i64 j ∧ wr.ownsRow w.heap.size 5 1 v (enc x j).length (Lib.byteCells (enc x j)) ∧ Below w.heap.size w wr)
    (fun _ i _ => len - (intOf i).toNat)
  case atStart => exact ⟨0, Nat.zero_le _, rfl, World.ownsRow_nil _ _ _ _, Below.refl _ _⟩
  case round =>
    obtain ⟨j, hj, rfl, hown, hbel⟩ := hrel
    have hel := enc_len x hx j
    by_cases hlt : j < len
    · have hcx : wr.cell? ⟨b, off + j, none⟩ = some (.int .u64 (x j)) := (hbel.cell (by exact hb)).trans (hc j hlt)
      go_wp2_with fail
      refine (app_any w.heap.size (enc x j).length (x j) (hx j) _ _ _ hown hbel.size (by omega)).mono ?_
      rintro e w1 ⟨v', rfl, hown', hb'⟩
      have HO : Hid (w1.ownsRow w.heap.size 5 1 v' (enc x (j + 1)).length (Lib.byteCells (enc x (j + 1)))) := by
        have e1 : (enc x (j + 1)).length = (enc x j).length + (Lib.uvarint (x j)).length := by simp [enc]
        have e2 : Lib.byteCells (enc x (j + 1)) = Lib.byteCells (enc x j) ++ Lib.byteCells (Lib.uvarint (x j)) := by simp [enc, Lib.byteCells]
        rw [e1, e2]; exact hown'
      clear hown hown'
      go_wp2
      go_roundw
      case rel => exact ⟨j + 1, by omega, by go_num, HO.out, hbel.trans hb'⟩
      case measure => simp [intOf]; omega
    · have ej : len = j := by omega
      subst ej
      obtain ⟨W0, rfl⟩ : ∃ W0, W0 = wr := ⟨wr, rfl⟩
      have hep := enc_pos x len h1
      obtain ⟨g, bcap, rfl, hgB, hgs, hLc, hcm, hcells⟩ := row_shape hown rfl hep
      unfold maxLen at hcm
      have HRD : Hid (ReaderAt (W0.alloc (.cells #[.slice (some ⟨g, 0, none⟩) (enc x len).length bcap, .int .i64 0, .nilIface] 48)) W0.heap.size g 0 (enc x len).length bcap 0 (byteF (enc x len))) := reader_new hgs hcells (byteF_lo _) (byteF_hi _)
      have hel2 := enc_len x hx len
      have hbs : b < W0.heap.size := Nat.lt_of_lt_of_le hb hbel.size
      clear hown hcells
      go_wp2_with fail
      refine (new_any _ _ _ _).mono ?_
      rintro e w1 ⟨rfl, rfl⟩
      go_wp2
      go_loopg [6] len (fun gk i wq => ∃ j : Nat, gk + j = len ∧ j ≤ len ∧ i = .int .i64 j ∧ ReaderAt wq W0.heap.size g 0 (enc x len).length bcap (enc x j).length (byteF (enc x len)) ∧ Below W0.heap.size W0 wq)
      case atStart => exact ⟨0, rfl, Nat.zero_le _, rfl, HRD.out, (Below.refl _ _).alloc (Nat.le_refl _) _⟩
      case round =>
        obtain ⟨j, hgj, hj, rfl, hrd, hbel2⟩ := hrel
        have HGJ : Hid _ := hgj
        clear hgj HRD
        by_cases hlt : j < len
        · obtain ⟨k, hk1, hk2, hk3, hk4⟩ := uv_spec (x j)
          have hle := enc_le x len j hlt
          have hk9 : k ≤ 9 := by have := Lib.uvarint_length64 (hx j); omega
          have hd1 : ∀ i, i < k → byteF (enc x len) ((enc x j).length + i) = ((x j / 128 ^ i % 128 + 128 : Nat) : Int) := fun i hi => by rw [enc_at x len j hlt i (by omega), hk2 i hi]
          have hd2 : byteF (enc x len) ((enc x j).length + k) = ((x j / 128 ^ k : Nat) : Int) := by rw [enc_at x len j hlt k (by omega), hk3]
          have hv : vF (fun i => byteF (enc x len) ((enc x j).length + i)) k = (x j : Int) := vF_eq _ (x j) k (hx j) hd1 hd2
          have hctr := rd_ok (byteF (enc x len)) W0.heap.size g 0 (enc x len).length bcap (enc x j).length k
          have HCT : Hid (∀ m, Calls Ybaf.prog 9 #[.pointer (some ⟨W0.heap.size, 0, none⟩)] (wr.drewN m) fun e w' => e = .returned (.int .u64 (x j)) ∧ ∃ m', w' = ((wr.drewN m).drewN m').setCell ⟨W0.heap.size, 1, none⟩ (.int .i64 (((enc x j).length : Int) + ((k : Int) + 1)))) := by
            intro m
            have h := hctr (wr.drewN m) hLc hcm ⟨hrd.1, hrd.2, hrd.3, hrd.4, hrd.5, hrd.6, hrd.7⟩ (by omega) hk9 (fun i hi => by rw [hd1 i hi]; omega) (by rw [hd2]; omega) (fun e => by rw [hd2, e]; have := tenth (x j) (hx j); omega)
            rw [hv] at h
            exact h
          have hcx : wr.cell? ⟨b, off + j, none⟩ = some (.int .u64 (x j)) := (hbel2.cell (by exact hbs)).trans ((hbel.cell (by exact hb)).trans (hc j hlt))
          have c2 := hrd.cErr
          have HST : Hid (∀ m, ReaderAt ((wr.drewN m).setCell ⟨W0.heap.size, 1, none⟩ (.int .i64 (((enc x j).length : Int) + ((k : Int) + 1)))) W0.heap.size g 0 (enc x len).length bcap (enc x (j + 1)).length (byteF (enc x len))) := fun m => hrd.step (by omega) m _ _ (by simp only [enc, List.length_append]; omega)
          have i0 : (0 : Int) ≤ (j : Int) := by omega
          have i1 : (j : Int) < (len : Int) := by omega
          have hbR : ¬ b = W0.heap.size := by omega
          have HK : Hid (∀ m z, ((wr.drewN m).setCell ⟨W0.heap.size, 1, none⟩ z).cell? ⟨b, off + j, none⟩ = some (.int .u64 (x j)) ∧ ((wr.drewN m).setCell ⟨W0.heap.size, 1, none⟩ z).cell? ⟨W0.heap.size, 2, none⟩ = some .nilIface) := fun m z =>
            ⟨(World.cell?_setCell_other (wr.drewN m) _ _ _ (fun e => hbR (congrArg Addr.block e).symm)).trans hcx, (World.cell?_setCell_other (wr.drewN m) _ _ _ (by simp)).trans c2⟩
          clear hrd hctr hv hd1 hd2 hk1 hk2 hk3 hk4 hle
          go_wp2
          go_region_held3 (fun y => y.cell? ⟨b, off + j, none⟩ = some (.int .u64 (x j)) ∧ y.cell? ⟨W0.heap.size, 2, none⟩ = some .nilIface) (first | exact HK.out _ _ | go_keep)
            (first | (go_at_call 9; refine (HCT.out 1).mono ?_; rintro e w' ⟨rfl, m, rfl⟩))
          go_wp2
          go_roundg (len - (j + 1))
          case measure => have := HGJ.out; omega
          case rel => exact ⟨j + 1, by omega, by omega, by go_num, HST.out _, (below_drewN hbel2 _).setCell (by simp) _⟩
        · have ej : len = j := by omega
          subst ej
          have c1 := hrd.cOff
          have c2 := hrd.cErr
          clear hrd
          go_wp2
          go_ret
          exact ⟨rfl, hbel.trans (hbel2.mono hbel.size)⟩

/-- No number at all, or more than 256 of them. -/
theorem trip_many (a : Option Addr) (len cap : Nat) (w : World) (hm : len ≤ maxLen) (h : 256 < len) :
    Calls Ybaf.prog 6 #[.slice a len cap] w fun e w' => e = .returned (.bool true) ∧ Below w.heap.size w w' := by
  unfold maxLen at hm
  have g1 : decide ((256 : Int) < (len : Int)) = true := decide_eq_true (by omega)
  go_enter Ybaf.func6, Ybaf.ntmps6
  go_wp2
  go_ret
  exact ⟨rfl, Below.refl _ _⟩

theorem trip_zero (a : Option Addr) (cap : Nat) (w : World) :
    Calls Ybaf.prog 6 #[.slice a 0 cap] w fun e w' => e = .returned (.bool true) ∧ Below w.heap.size w w' := by
  go_enter Ybaf.func6, Ybaf.ntmps6
  go_wp2
  go_loop [3, 4] (fun v i => v = .slice none 0 0 ∧ i = .int .i64 0) (fun _ _ => 0)
  case atStart => exact ⟨rfl, rfl⟩
  case round =>
    obtain ⟨rfl, rfl⟩ := hrel
    go_wp2_with fail
    refine (new_any _ _ _ _).mono ?_
    rintro e w1 ⟨rfl, rfl⟩
    go_wp2
    go_loop [6] (fun i => i = .int .i64 0) (fun _ => 0)
    case atStart => rfl
    case round =>
      subst hrel
      go_wp2
      go_ret
      exact ⟨rfl, (Below.refl _ _).alloc (Nat.le_refl _) _⟩
end Go.Proofs.YbulkaahuFmt
