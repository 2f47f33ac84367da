import Derived.Test.YbulkaahuFmtAMap
namespace Go.Proofs.YbulkaahuFmt
open Go.RowKit Go.Maps

/-- The first name's entry is there, once a round has been gone. -/
structure FirstIn (D : DataW Value) (S : Nat → ByteArray) (t : Int) (j : Nat) : Prop where
  has : 0 < j → Maps.has D (key (S 0)) = true
  at_ : 0 < j → ∀ z, D.atKey (key (S 0)) z = .held (proxyV (S 0) t ⟨#[]⟩ ⟨#[]⟩)

theorem key_inj {a b : ByteArray} (h : key a = key b) : a = b := by
  unfold key at h
  simp only [Lit.string.injEq] at h
  cases a; cases b
  simpa using congrArg List.toArray h

theorem isKey (s : ByteArray) : WideAt.IsKeyLit (key s) := trivial

theorem FirstIn.step {D : DataW Value} {S : Nat → ByteArray} {t : Int} {j : Nat} (h : FirstIn D S t j) (hD : IsMap D) : FirstIn (D.put (key (S j)) (.held (proxyV (S j) t ⟨#[]⟩ ⟨#[]⟩))) S t (j + 1) := by
  by_cases e : key (S 0) = key (S j)
  · have e' := key_inj e
    rw [← e']
    exact ⟨fun _ => has_put_same hD (isKey _) _, fun _ z => atKey_put_same hD (isKey _) _ z⟩
  · have hj : 0 < j := by
      rcases Nat.eq_zero_or_pos j with h0 | h0
      · subst h0; exact absurd rfl e
      · exact h0
    exact ⟨fun _ => by rw [has_put_other e]; exact h.has hj, fun _ z => by rw [atKey_put_other e]; exact h.at_ hj z⟩

theorem ownsMap_below {w w' : World} {B n : Nat} {D : DataW Value} (h : Below w.heap.size w w') (hown : w.ownsMap Ybaf.prog 9 anyElem B n D) : w'.ownsMap Ybaf.prog 9 anyElem B n D := by
  have hlt := hown.lt
  obtain ⟨es, clock, hb, r⟩ := hown
  exact ⟨es, clock, (h.block B hlt).trans hb, r⟩

set_option maxHeartbeats 1000000 in
theorem first_main (S : Nat → ByteArray) (b off len cap : Nat) (t : Int) (w : World) (h1 : 1 ≤ len) (h2 : len ≤ 1024) (hb : b < w.heap.size)
    (hc : ∀ i, i < len → w.cell? ⟨b, off + i, none⟩ = some (.string (S i))) (hS : ∀ i, (S i).size ≤ maxLen) :
    Calls Ybaf.prog 4 #[.slice (some ⟨b, off, none⟩) len cap, .int .i64 t] w fun e w' => e = .returned (.bool true) ∧ Below w.heap.size w w' := by
  have g1 : ((len : Int) == 0) = false := beq_eq_false_iff_ne.2 (by omega)
  have g2 : decide ((1024 : Int) < (len : Int)) = false := decide_eq_false (by omega)
  have hmm := @run_makeMap Ybaf.prog
  go_enter Ybaf.func4, Ybaf.ntmps4
  go_wp2
  go_loopw [6] (fun i wr => ∃ (j : Nat) (D : DataW Value), j ≤ len ∧ i = .int .i64 j ∧ wr.ownsMap Ybaf.prog 9 anyElem w.heap.size j D ∧ FirstIn D S t j ∧ Below w.heap.size w wr)
    (fun i _ => len - (intOf i).toNat)
  case atStart => exact ⟨0, .map [], Nat.zero_le _, rfl, World.ownsMap_made _ _ _ _, ⟨fun h => absurd h (by omega), fun h => absurd h (by omega)⟩, (Below.refl _ _).alloc (Nat.le_refl _) _⟩
  case round =>
    obtain ⟨j, D, hj, rfl, hown, hfi, hbel⟩ := hrel
    by_cases hlt : j < len
    · have hcx : wr.cell? ⟨b, off + j, none⟩ = some (.string (S j)) := (hbel.cell (by exact hb)).trans (hc j hlt)
      obtain ⟨w', hrun, hown', hturn⟩ := (hown.drew).store law Ybaf.underlying26 (by unfold maxLen; omega) (key_of (hS j)) (val := proxyV (S j) t ⟨#[]⟩ ⟨#[]⟩) rfl
      have HF : Hid (FirstIn (D.put (key (S j)) (.held (proxyV (S j) t ⟨#[]⟩ ⟨#[]⟩))) S t (j + 1)) := hfi.step hown.isMap
      have HO : Hid _ := hown'
      have HB : Hid (Below w.heap.size w w') := (hbel.drew).grown hturn.grown hbel.size (fun k hk => by cases hk; exact Nat.le_refl _)
      unfold proxyV at hrun
      clear hown hown' hturn hfi hmm
      go_wp2
      go_region
      all_goals
        go_wp2
        go_roundw
        case rel => exact ⟨j + 1, _, by omega, by go_num, HO.out, HF.out, HB.out⟩
        case measure => simp [intOf]; omega
    · have ej : len = j := by omega
      subst ej
      have hhas := hfi.has (by omega)
      have hat := hfi.at_ (by omega)
      have hc0 : wr.cell? ⟨b, off, none⟩ = some (.string (S 0)) := (hbel.cell (by exact hb)).trans (by simpa using hc 0 (by omega))
      have hbs : b < wr.heap.size := Nat.lt_of_lt_of_le hb hbel.size
      have hz : w.heap.size < wr.heap.size := hown.lt
      have hsl := hown.size_le
      have HOWN : Hid (∀ o1 o2, ((wr.alloc o1).alloc o2).ownsMap Ybaf.prog 9 anyElem w.heap.size len D) := fun o1 o2 => (hown.alloc o1).alloc o2
      clear hown hmm hfi
      go_wp2_with fail
      refine (proxy_hit (wr.heap.size + 1) wr.heap.size w.heap.size len D (S 0) (S 0) ⟨#[]⟩ ⟨#[]⟩ t _ (HOWN.out _ _) (hS 0) hhas hat (by go_simp) (by go_simp)).mono ?_
      rintro e w2 ⟨rfl, hb2⟩
      have hown2 := ownsMap_below hb2 (HOWN.out _ _)
      have hlen2 : ∀ o n ty, (Builtin.len_ #[26] ty #[.map (some w.heap.size)]).run Ybaf.prog ((w2.alloc o).drewN n) = .ok (.int .i64 (Maps.size D)) ((w2.alloc o).drewN n) := fun o n ty => (show ((w2.alloc o).drewN n).ownsMap Ybaf.prog 9 anyElem w.heap.size len D from hown2.alloc o).len Ybaf.underlying26 ty
      have hc2 : w2.cell? ⟨b, off, none⟩ = some (.string (S 0)) := (hb2.cell (by simp; omega)).trans ((World.cell?_alloc_past _ _ _ (by simp; omega)).trans ((World.cell?_alloc_past _ _ _ hbs).trans hc0))
      have hb3 : b < w2.heap.size := block_lt_of_cell hc2
      have HB2 : Hid _ := hb2
      clear hown2 hb2 hhas hat HOWN hc0
      unfold proxyV
      go_wp2
      go_quiet (fail)
      go_wp2
      go_ret
      have hb2 := HB2.out
      have hsz := hb2.size
      simp at hsz
      exact ⟨rfl, below_drewN ((((hbel.alloc hbel.size _).alloc (by have := hbel.size; simp; omega) _).trans (hb2.mono (by have := hbel.size; simp; omega))).alloc (by have := hbel.size; omega) _) _⟩
end Go.Proofs.YbulkaahuFmt
