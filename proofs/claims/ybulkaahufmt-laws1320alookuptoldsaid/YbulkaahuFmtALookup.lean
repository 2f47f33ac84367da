import Derived.Test.YbulkaahuFmtAFirst
import Derived.Test.YbulkaahuFmtAMiss
import Derived.Deep.RegionHeld3
import Derived.Deep.LoopGhost
import Derived.Deep.DrawnRows
namespace Go.Proofs.YbulkaahuFmt
open Go.RowKit Go.Maps
open Go.Extern.Stop Go.Stop Go.Extern

/-- The tier of proxy i. -/
def tierZ (T : Nat → Int) (nt : Nat) (i : Nat) : Int := if i < nt then T i else (i : Int) + 1

theorem tier_any (T : Nat → Int) (ta : Option Addr) (tb to nt tcap i : Nat) (w : World) (hi : i ≤ 1024) (hn : nt ≤ 1024) (hta : 0 < nt → ta = some ⟨tb, to, none⟩) (htc : ∀ i, i < nt → w.cell? ⟨tb, to + i, none⟩ = some (.int .i64 (T i))) :
    Calls Ybaf.prog 7 #[.slice ta nt tcap, .int .i64 (i : Int)] w fun e w' => e = .returned (.int .i64 (tierZ T nt i)) ∧ w' = w := by
  unfold tierZ
  by_cases h : i < nt
  · obtain rfl := hta (by omega)
    have hc := htc i h
    rw [if_pos h]
    clear hta htc
    go_enter Ybaf.func7, Ybaf.ntmps7
    go_wp2
    go_ret
    exact ⟨rfl, rfl⟩
  · rw [if_neg h]
    clear hta htc
    go_enter Ybaf.func7, Ybaf.ntmps7
    go_wp2
    go_ret
    exact ⟨rfl, rfl⟩

/-- The last of the first j names that is q. -/
def lastOf (S : Nat → ByteArray) (q : ByteArray) : Nat → Option Nat
  | 0 => none
  | j + 1 => if S j = q then some j else lastOf S q j

theorem last_none {S : Nat → ByteArray} {q : ByteArray} {n : Nat} (h : lastOf S q n = none) : ∀ i, i < n → S i ≠ q := by
  induction n with
  | zero => intro i hi; omega
  | succ n ih =>
    intro i hi
    unfold lastOf at h
    by_cases e : S n = q
    · rw [if_pos e] at h; simp at h
    · rw [if_neg e] at h
      by_cases e' : i = n
      · subst e'; exact e
      · exact ih h i (by omega)

theorem last_some {S : Nat → ByteArray} {q : ByteArray} {n i0 : Nat} (h : lastOf S q n = some i0) : i0 < n ∧ S i0 = q ∧ ∀ i, i0 < i → i < n → S i ≠ q := by
  induction n with
  | zero => simp [lastOf] at h
  | succ n ih =>
    unfold lastOf at h
    by_cases e : S n = q
    · rw [if_pos e] at h
      simp at h
      subst h
      exact ⟨by omega, e, fun i h1 h2 => by omega⟩
    · rw [if_neg e] at h
      obtain ⟨h1, h2, h3⟩ := ih h
      refine ⟨by omega, h2, fun i h4 h5 => ?_⟩
      by_cases e' : i = n
      · subst e'; exact e
      · exact h3 i h4 (by omega)

def ring : ByteArray := ⟨#[114]⟩

/-- What the map holds of the name q, once the first j names are stored. -/
def QIn (D : DataW Value) (S : Nat → ByteArray) (T : Nat → Int) (nt : Nat) (q : ByteArray) (j : Nat) : Prop :=
  match lastOf S q j with
  | none => Maps.has D (key q) = false
  | some i => Maps.has D (key q) = true ∧ ∀ z, D.atKey (key q) z = .held (proxyV (S i) (tierZ T nt i) ring (S i))

theorem QIn.step {D : DataW Value} {S : Nat → ByteArray} {T : Nat → Int} {nt : Nat} {q : ByteArray} {j : Nat} (h : QIn D S T nt q j) (hD : IsMap D) : QIn (D.put (key (S j)) (.held (proxyV (S j) (tierZ T nt j) ring (S j)))) S T nt q (j + 1) := by
  unfold QIn lastOf
  by_cases e : S j = q
  · rw [if_pos e]
    subst e
    exact ⟨has_put_same hD (isKey _) _, fun z => atKey_put_same hD (isKey _) _ z⟩
  · rw [if_neg e]
    have e' : key q ≠ key (S j) := fun h => e (key_inj h).symm
    unfold QIn at h
    revert h
    cases lastOf S q j with
    | none => intro h; show Maps.has _ _ = false; rw [has_put_other e']; exact h
    | some i => intro h; exact ⟨by rw [has_put_other e']; exact h.1, fun z => by rw [atKey_put_other e']; exact h.2 z⟩

theorem q_start (S : Nat → ByteArray) (T : Nat → Int) (nt : Nat) (q : ByteArray) : QIn (.map []) S T nt q 0 := rfl

theorem toList_inj {a b : ByteArray} (h : a.toList = b.toList) : a = b := by
  rw [ByteArray.toList_eq, ByteArray.toList_eq] at h
  cases a; cases b
  simpa using congrArg List.toArray h

theorem strne {a b : ByteArray} (h : a ≠ b) : (a.toList == b.toList) = false := by
  rw [beq_eq_false_iff_ne]
  exact fun e => h (toList_inj e)

attribute [local go_sem ↓] Go.wp_at_zero Go.wp_at_succ

set_option maxRecDepth 100000 in
set_option maxHeartbeats 2000000 in
theorem lookup_main (F : Interp) (S : Nat → ByteArray) (b off len cap : Nat) (T : Nat → Int) (ta : Option Addr) (tb to nt tcap : Nat) (q : ByteArray) (w : World) (hF : F.answers w.tape) (h1 : 1 ≤ len) (h2 : len ≤ 1024) (hb : b < w.heap.size)
    (hc : ∀ i, i < len → w.cell? ⟨b, off + i, none⟩ = some (.string (S i))) (hS : ∀ i, (S i).size ≤ maxLen) (hq : q.size ≤ maxLen)
    (hn : nt ≤ 1024) (hta : 0 < nt → ta = some ⟨tb, to, none⟩) (htb : 0 < nt → tb < w.heap.size) (htc : ∀ i, i < nt → w.cell? ⟨tb, to + i, none⟩ = some (.int .i64 (T i))) :
    Calls Ybaf.prog 3 #[.slice (some ⟨b, off, none⟩) len cap, .slice ta nt tcap, .string q] w fun e w' => e = .returned (.bool true) ∧ Below w.heap.size w w' := by
  have g1 : decide ((1024 : Int) < (len : Int)) = false := decide_eq_false (by omega)
  have g2 : decide ((1024 : Int) < (nt : Int)) = false := decide_eq_false (by omega)
  have g3 : decide ((0 : Int) < (len : Int)) = true := decide_eq_true (by omega)
  have g4 : decide (0 < len) = true := decide_eq_true (by omega)
  have hmm := @run_makeMap Ybaf.prog
  have q22 : ∀ x, (binOp .eql 22 (.slice none 0 0) (.slice none 0 0)).run Ybaf.prog x = .ok (.bool true) x := fun x => by kernel_rfl
  have q30 : ∀ x, (binOp .eql 30 (.pointer none) (.pointer none)).run Ybaf.prog x = .ok (.bool true) x := fun x => by kernel_rfl
  have HTA : Hid _ := hta
  have HTB : Hid _ := htb
  clear hta htb
  go_enter Ybaf.func3, Ybaf.ntmps3
  go_wp2
  go_loopg [8] len (fun gk i wr => ∃ (j : Nat) (D : DataW Value), gk + j = len ∧ j ≤ len ∧ i = .int .i64 j ∧ wr.ownsMap Ybaf.prog 9 anyElem (w.heap.size + 1) j D ∧ QIn D S T nt q j ∧ wr.cell? ⟨w.heap.size, 1, none⟩ = some (.map (some (w.heap.size + 1))) ∧ Below w.heap.size w wr)
  case atStart => exact ⟨0, .map [], rfl, Nat.zero_le _, rfl, by simpa using World.ownsMap_made (w.alloc (Obj.cells #[Value.map none, Value.map (some (w.heap.size + 1))] 28)) Ybaf.prog 9 anyElem, q_start S T nt q, by simp, ((Below.refl _ _).alloc (Nat.le_refl _) _).alloc (by simp) _⟩
  case round =>
    obtain ⟨j, D, hgj, hj, rfl, hown, hqi, hcm, hbel⟩ := hrel
    have HGJ : Hid _ := hgj
    clear hgj
    by_cases hlt : j < len
    · have hcx : wr.cell? ⟨b, off + j, none⟩ = some (.string (S j)) := (hbel.cell (by exact hb)).trans (hc j hlt)
      have htr : ∀ i, i < nt → wr.cell? ⟨tb, to + i, none⟩ = some (.int .i64 (T i)) := fun i hi => (hbel.cell (by exact HTB.out (by omega))).trans (htc i hi)
      obtain ⟨w', hrun, hown', hturn⟩ := (hown.drew).store law Ybaf.underlying26 (by unfold maxLen; omega) (key_of (hS j)) (val := proxyV (S j) (tierZ T nt j) ring (S j)) rfl
      have HF : Hid (QIn (D.put (key (S j)) (.held (proxyV (S j) (tierZ T nt j) ring (S j)))) S T nt q (j + 1)) := hqi.step hown.isMap
      have HO : Hid (w'.ownsMap Ybaf.prog 9 anyElem (w.heap.size + 1) (j + 1) (D.put (key (S j)) (.held (proxyV (S j) (tierZ T nt j) ring (S j))))) := hown'
      have HB : Hid (Below w.heap.size w w') := (hbel.drew).grown hturn.grown hbel.size (fun k hk => by cases hk; exact Nat.le_succ _)
      have HC : Hid (w'.cell? ⟨w.heap.size, 1, none⟩ = some (.map (some (w.heap.size + 1)))) := (World.cell?_of_block (hturn.grown.block w.heap.size (block_lt_of_cell hcm) (by simp))).trans hcm
      have HTR : Hid (∀ i, i < nt → wr.cell? ⟨tb, to + i, none⟩ = some (.int .i64 (T i))) := htr
      have hcm' := HC.out
      have hcx' : w'.cell? ⟨b, off + j, none⟩ = some (.string (S j)) := (HB.out.cell (by exact hb)).trans (hc j hlt)
      have i0 : (0 : Int) ≤ (j : Int) := by omega
      have i1 : (j : Int) < (len : Int) := by omega
      unfold proxyV ring at hrun
      clear hown hown' hturn hqi hmm htr htc
      go_wp2
      go_region_held3 (fun x => x.cell? ⟨w.heap.size, 1, none⟩ = some (.map (some (w.heap.size + 1))) ∧ x.cell? ⟨b, off + j, none⟩ = some (.string (S j))) (go_keep)
        (first | (go_at_call 7; refine (tier_any T ta tb to nt tcap j _ (by omega) hn HTA.out ?_).mono ?_; exact HTR.out; rintro e w' ⟨rfl, rfl⟩))
      go_wp2
      go_roundg (len - (j + 1))
      case measure => have := HGJ.out; omega
      case rel => exact ⟨j + 1, _, by omega, by omega, by go_num, HO.out, HF.out, HC.out, HB.out⟩
    · have ej : len = j := by omega
      subst ej
      have hc' : ∀ i, i < len → wr.cell? ⟨b, off + i, none⟩ = some (.string (S i)) := fun i hi => (hbel.cell (by exact hb)).trans (hc i hi)
      have hz : w.heap.size + 1 < wr.heap.size := hown.lt
      have hbs : b < wr.heap.size := Nat.lt_of_lt_of_le hb hbel.size
      have HC' : Hid (∀ i, i < len → wr.cell? ⟨b, off + i, none⟩ = some (.string (S i))) := hc'
      have HOWN : Hid (∀ o, (wr.alloc o).ownsMap Ybaf.prog 9 anyElem (w.heap.size + 1) len D) := fun o => hown.alloc o
      have HTC : Hid _ := htc
      have HQI : Hid (QIn D S T nt q len) := hqi
      clear hown hmm hqi hc' hc htc
      cases hl : lastOf S q len with
      | none =>
        have hne := last_none hl
        have hhas : Maps.has D (key q) = false := by have h := HQI.out; unfold QIn at h; rw [hl] at h; exact h
        have HNE : Hid _ := hne
        clear hl hne
        go_wp2
        go_loop [10, 11] (fun wnt i => ∃ z : Int, -1 ≤ z ∧ z < len ∧ i = .int .i64 z ∧ wnt = .int .i64 (-1)) (fun _ i => (intOf i + 1).toNat)
        case atStart => exact ⟨_, by omega, by omega, rfl, rfl⟩
        case round =>
          obtain ⟨z, hz1, hz2, rfl, rfl⟩ := hrel
          by_cases hz0 : 0 ≤ z
          · obtain ⟨k, rfl⟩ := Int.eq_ofNat_of_zero_le hz0
            have hck := HC'.out k (by omega)
            have hnk := HNE.out k (by omega)
            have hnb := strne hnk
            clear HC' HOWN HQI hhas hnk
            go_wp2
            go_round
            case rel => exact ⟨(k : Int) - 1, by omega, by omega, rfl, rfl⟩
            case measure => simp [intOf]
          · clear HC'
            go_wp2_with fail
            refine (proxy_miss F wr.heap.size w.heap.size (some (w.heap.size + 1)) q _ ?hf ?hlk ?hc1 ?hc2).mono ?_
            case hf => show F.answers wr.tape; rw [hbel.tape]; exact hF
            case hlk => exact fun o => look_miss ((HOWN.out _).alloc o) hq hhas
            case hc1 => go_simp
            case hc2 => exact (World.cell?_alloc_past _ _ _ (by omega)).trans hcm
            rintro e w2 ⟨ea, rfl, hb2⟩
            have HB2 : Hid _ := hb2
            clear hb2 HOWN HQI hhas
            unfold proxyV
            go_wp2
            go_ret
            have hb2 := HB2.out
            have hsz := hb2.size
            simp at hsz
            exact ⟨rfl, ((hbel.alloc hbel.size _).trans (hb2.mono (by simp; omega))).alloc (by omega) _⟩
      | some i0 =>
        obtain ⟨hi0, hS0, hafter⟩ := last_some hl
        have hq0 : ((S i0).toList == q.toList) = true := by rw [hS0]; simp
        have hhas : Maps.has D (key q) = true := by have h := HQI.out; unfold QIn at h; rw [hl] at h; exact h.1
        have hat : ∀ z, D.atKey (key q) z = .held (proxyV (S i0) (tierZ T nt i0) ring (S i0)) := by have h := HQI.out; unfold QIn at h; rw [hl] at h; exact h.2
        have HAT : Hid _ := hat
        have HHAS : Hid _ := hhas
        have HNE : Hid _ := hafter
        clear hl hafter hS0 hat hhas HQI
        go_wp2
        go_loop [10, 11] (fun wnt i => ∃ k : Nat, i0 ≤ k ∧ k < len ∧ i = .int .i64 k ∧ wnt = .int .i64 (-1)) (fun _ i => (intOf i).toNat)
        case atStart => exact ⟨len - 1, by omega, by omega, by go_num, rfl⟩
        case round =>
          obtain ⟨k, hk1, hk2, rfl, rfl⟩ := hrel
          have hck := HC'.out k hk2
          by_cases hke : k = i0
          · subst hke
            clear HC'
            go_wp2_with fail
            refine (proxy_hit wr.heap.size w.heap.size (w.heap.size + 1) len D q (S k) ring (S k) (tierZ T nt k) _ (HOWN.out _) hq HHAS.out HAT.out ?hc1 ?hc2).mono ?_
            case hc1 => go_simp
            case hc2 => exact (World.cell?_alloc_past _ _ _ (by omega)).trans hcm
            rintro e w2 ⟨rfl, hb2⟩
            have HT2 : Hid (∀ o i, i < nt → (w2.alloc o).cell? ⟨tb, to + i, none⟩ = some (.int .i64 (T i))) := fun o i hi => by
              have h0 := (hbel.cell (by exact HTB.out (by omega))).trans (HTC.out i hi)
              have h3 := (World.cell?_alloc_past (w := wr) (.cells #[.pointer (some ⟨w.heap.size, 0, none⟩), .map none, .map none, .map none, .map none, .map none, .map none, .map none] 37) tb (to + i) (block_lt_of_cell h0)).trans h0
              have h4 := (hb2.cell (block_lt_of_cell h3)).trans h3
              exact (World.cell?_alloc_past _ _ _ (block_lt_of_cell h4)).trans h4
            have HB2 : Hid _ := hb2
            clear hb2 HOWN HAT HHAS HTC HNE hck
            unfold proxyV ring
            go_wp2
            go_quiet ((go_at_call 7; refine Calls.quiet_of_same (tier_any T ta tb to nt tcap k _ (by omega) hn HTA.out ?_); exact HT2.out _))
            go_wp2
            go_ret
            have hb2 := HB2.out
            have hsz := hb2.size
            simp at hsz
            exact ⟨rfl, below_drewN (((hbel.alloc hbel.size _).trans (hb2.mono (by simp; omega))).alloc (by omega) _) _⟩
          · have hnb := strne (HNE.out k (by omega) hk2)
            clear HC' HOWN HAT HHAS HTC HNE
            go_wp2
            go_round
            case rel => exact ⟨k - 1, by omega, by omega, by go_num, rfl⟩
            case measure => simp [intOf]; omega

set_option maxRecDepth 100000 in
set_option maxHeartbeats 1000000 in
/-- No name at all: the map is nil, and nothing is found. -/
theorem lookup_zero (F : Interp) (na : Option Addr) (ncap : Nat) (ta : Option Addr) (nt tcap : Nat) (q : ByteArray) (w : World) (hF : F.answers w.tape) (hq : q.size ≤ maxLen) (hn : nt ≤ 1024) :
    Calls Ybaf.prog 3 #[.slice na 0 ncap, .slice ta nt tcap, .string q] w fun e w' => e = .returned (.bool true) ∧ Below w.heap.size w w' := by
  have g2 : decide ((1024 : Int) < (nt : Int)) = false := decide_eq_false (by omega)
  have q22 : ∀ x, (binOp .eql 22 (.slice none 0 0) (.slice none 0 0)).run Ybaf.prog x = .ok (.bool true) x := fun x => by kernel_rfl
  have q30 : ∀ x, (binOp .eql 30 (.pointer none) (.pointer none)).run Ybaf.prog x = .ok (.bool true) x := fun x => by kernel_rfl
  go_enter Ybaf.func3, Ybaf.ntmps3
  go_wp2
  go_loop [10, 11] (fun wnt i => i = .int .i64 (-1) ∧ wnt = .int .i64 (-1)) (fun _ i => (intOf i + 1).toNat)
  case atStart => exact ⟨rfl, rfl⟩
  case round =>
    obtain ⟨rfl, rfl⟩ := hrel
    go_wp2_with fail
    refine (proxy_miss F (w.heap.size + 1) w.heap.size none q _ ?hf ?hlk ?hc1 ?hc2).mono ?_
    case hf => exact hF
    case hlk => exact fun o => look_none _ hq
    case hc1 => go_simp
    case hc2 => go_simp
    rintro e w2 ⟨ea, rfl, hb2⟩
    have HB2 : Hid _ := hb2
    clear hb2
    unfold proxyV
    go_wp2
    go_ret
    have hb2 := HB2.out
    have hsz := hb2.size
    simp at hsz
    exact ⟨rfl, ((((Below.refl _ _).alloc (Nat.le_refl _) _).alloc (by simp) _).trans (hb2.mono (by simp; omega))).alloc (by omega) _⟩

set_option maxRecDepth 100000 in
/-- More than 1024 names or tiers: true at once. -/
theorem lookup_many (na ta : Option Addr) (len ncap nt tcap : Nat) (q : ByteArray) (w : World) (m1 : len ≤ maxLen) (m2 : nt ≤ maxLen) (h : 1024 < len ∨ 1024 < nt) :
    Calls Ybaf.prog 3 #[.slice na len ncap, .slice ta nt tcap, .string q] w fun e w' => e = .returned (.bool true) ∧ Below w.heap.size w w' := by
  unfold maxLen at m1 m2
  by_cases g : 1024 < len
  · have g1 : decide ((1024 : Int) < (len : Int)) = true := decide_eq_true (by omega)
    go_enter Ybaf.func3, Ybaf.ntmps3
    go_wp2
    go_ret
    exact ⟨rfl, Below.refl _ _⟩
  · have g1 : decide ((1024 : Int) < (len : Int)) = false := decide_eq_false (by omega)
    have g2 : decide ((1024 : Int) < (nt : Int)) = true := decide_eq_true (by omega)
    go_enter Ybaf.func3, Ybaf.ntmps3
    go_wp2
    go_ret
    exact ⟨rfl, Below.refl _ _⟩
end Go.Proofs.YbulkaahuFmt
