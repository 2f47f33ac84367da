/-
  THE LAW ON DECODING, WALKED.
-/
import Derived.Test.YbulkaahuFmtBBad
import Derived.Test.YbulkaahuFmtBApp
import Derived.Test.YbulkaahuFmtBIs
import Derived.Laws.CopyOwn
import Derived.Deep.OwnRows
namespace Go.Proofs.YbulkaahuFmt
open Go.RowKit Go.Extern.Stop Go.Stop Go.Extern

theorem dec_many (a : Option Addr) (len cap : Nat) (x f : Value) (w : World) (h : 1024 < len) :
    Calls Ybaf.prog 5 #[.slice a len cap, x, f] w fun e w' => e = .returned (.bool true) ∧ w' = w := by
  have g1 : decide ((1024 : Int) < (len : Int)) = true := decide_eq_true (by omega)
  go_enter Ybaf.func5, Ybaf.ntmps5
  go_wp2
  go_ret
  exact ⟨rfl, rfl⟩

/-- The bytes as cells. -/
def byteRow (d : Nat → Int) (n : Nat) : List Value := (List.range n).map fun i => .int .u8 (d i)

theorem byteRow_length (d : Nat → Int) (n : Nat) : (byteRow d n).length = n := by simp [byteRow]
theorem byteRow_at (d : Nat → Int) (n j : Nat) (v : Value) (h : (byteRow d n)[j]? = some v) : j < n ∧ v = .int .u8 (d j) := by
  have hj : j < n := by
    have := (List.getElem?_eq_some_iff.1 h).1
    rwa [byteRow_length] at this
  simp [byteRow, hj] at h
  exact ⟨hj, h.symm⟩

theorem row_cells {w : World} {g n : Nat} {d : Nat → Int} {t : TypeId} (h : w.heap[g]? = some (.cells (splice (List.replicate n (.int .u8 0)) 0 (byteRow d n)).toArray t (0, 0))) :
    g < w.heap.size ∧ ∀ i, i < n → w.cell? ⟨g, 0 + i, none⟩ = some (.int .u8 (d i)) := by
  refine ⟨(Array.getElem?_eq_some_iff.1 h).1, fun i hi => ?_⟩
  have e : splice (List.replicate n (Value.int .u8 0)) 0 (byteRow d n) = byteRow d n := by
    simp [splice, byteRow_length]
  rw [e] at h
  simp [World.cell?, h, byteRow, hi]

/-- How the bytes end: a number, a number cut short, a number too wide. -/
theorem ends (n : Nat) (d : Nat → Int) :
    (∃ j, j < n ∧ j ≤ 9 ∧ (∀ i, i < j → 128 ≤ d i) ∧ d j < 128 ∧ (j = 9 → d j ≤ 1)) ∨ (n ≤ 10 ∧ ∀ i, i < n → 128 ≤ d i) ∨
      ∃ j, j < n ∧ (∀ i, i < j → 128 ≤ d i) ∧ (j = 10 ∨ j = 9 ∧ 1 < d 9 ∧ d 9 < 128) := by
  have key : ∀ m, (∀ i, i < m → i < n → 128 ≤ d i) ∨ ∃ j, j < m ∧ j < n ∧ (∀ i, i < j → 128 ≤ d i) ∧ d j < 128 := by
    intro m
    induction m with
    | zero => exact Or.inl fun i hi => absurd hi (by omega)
    | succ m ih =>
      rcases ih with h | ⟨j, h1, h2, h3, h4⟩
      · by_cases hm : m < n ∧ d m < 128
        · exact Or.inr ⟨m, by omega, hm.1, fun i hi => h i hi (by omega), hm.2⟩
        · refine Or.inl fun i hi hin => ?_
          by_cases e : i = m
          · subst e; omega
          · exact h i (by omega) hin
      · exact Or.inr ⟨j, by omega, h2, h3, h4⟩
  rcases key 10 with h | ⟨j, h1, h2, h3, h4⟩
  · by_cases hn : n ≤ 10
    · exact Or.inr (Or.inl ⟨hn, fun i hi => h i (by omega) hi⟩)
    · exact Or.inr (Or.inr ⟨10, by omega, fun i hi => h i hi (by omega), Or.inl rfl⟩)
  · by_cases h9 : j = 9 ∧ 1 < d j
    · obtain ⟨rfl, h5⟩ := h9
      exact Or.inr (Or.inr ⟨9, h2, h3, Or.inr ⟨rfl, h5, h4⟩⟩)
    · exact Or.inl ⟨j, h2, by omega, h3, h4, fun e => by omega⟩

theorem reader_at {w : World} {g L cap k : Nat} {d : Nat → Int} (hg : g < w.heap.size) (hcells : ∀ i, i < L → w.cell? ⟨g, 0 + i, none⟩ = some (.int .u8 (d i))) (hlo : ∀ i, 0 ≤ d i) (hhi : ∀ i, d i ≤ 255) :
    ReaderAt (w.alloc (.cells #[.slice (some ⟨g, 0, none⟩) L cap, .int .i64 k, .nilIface] 48)) w.heap.size g 0 L cap k d := by
  refine ⟨?_, ?_, ?_, ?_, fun i hi => ?_, hlo, hhi⟩
  · rw [World.cell?_alloc_at _ _ _ _ rfl]; rfl
  · rw [World.cell?_alloc_at _ _ _ _ rfl]; rfl
  · rw [World.cell?_alloc_at _ _ _ _ rfl]; rfl
  · simp
  · exact (World.cell?_alloc_past _ _ _ hg).trans (hcells i hi)

set_option maxRecDepth 100000 in
set_option maxHeartbeats 2000000 in
theorem dec_main (F : Interp) (d : Nat → Int) (a : Option Addr) (len cap n : Nat) (f : Bool) (ea : Addr) (s : ByteArray) (w : World) (hlen : len ≤ 1024) (hn : n ≤ 65535) (hlo : ∀ i, 0 ≤ d i) (hhi : ∀ i, d i ≤ 255)
    (hsrc : 0 < len → ∃ b off, a = some ⟨b, off, none⟩ ∧ ∀ i, i < len → w.cell? ⟨b, off + i, none⟩ = some (.int .u8 (d i)))
    (hF : F.answers w.tape) (hg : w.cell? ⟨0, 0, none⟩ = some (.iface 83 (.pointer (some ea)))) (hs : w.cell? ea = some (.string s)) :
    Calls Ybaf.prog 5 #[.slice a len cap, .int .u16 n, .bool f] w fun e w' => e = .returned (.bool true) ∧ Below w.heap.size w w' := by
  have g1 : decide ((1024 : Int) < (len : Int)) = false := decide_eq_false (by omega)
  have hmk := fun y => run_make_row' (P := Ybaf.prog) 44 5 (.int .u8 0) 1 Ybaf.underlying44 info5 rfl .i64 .i64 len (by omega) (by omega) y
  go_enter Ybaf.func5, Ybaf.ntmps5
  go_wp2_with (refine wpList_copy_splice rfl _ _ 44 44 rfl 5 Ybaf.underlying44 (by kernel_rfl) (some ⟨w.heap.size, 0, none⟩) a len len len cap rfl rfl w.heap.size 0 (List.replicate len (.int .u8 0)) 5 ?c1 (byteRow d len) ?c2 ?c3 ?c4 ?c5 w.heap.size w ?c6 (Nat.le_refl _) ?_)
  case c1 =>
    rw [← toList_madeCells_one]
    show (w.heap.push _)[w.heap.size]? = _
    rw [Array.getElem?_push_size, Array.toArray_toList]
  case c2 => simp [byteRow_length]
  case c3 =>
    intro hp
    rw [byteRow_length] at hp
    obtain ⟨b, off, rfl, hc⟩ := hsrc hp
    refine ⟨⟨b, off, none⟩, rfl, fun j v hj => ?_⟩
    obtain ⟨h1, rfl⟩ := byteRow_at d len j v hj
    have h2 := hc j h1
    rw [show (⟨b, off, none⟩ : Addr).add j = ⟨b, off + j, none⟩ by simp [Addr.add]]
    exact (World.cell?_alloc_past _ _ _ (World.block_lt_of_cell? _ _ h2)).trans h2
  case c4 => simp [byteRow_length]
  case c5 =>
    intro v hv
    simp only [byteRow, List.mem_map] at hv
    obtain ⟨i, _, rfl⟩ := hv
    rfl
  case c6 => exact (Below.refl _ _).alloc (Nat.le_refl _) _
  intro w1 HROW hb1
  obtain ⟨hgl, hcells⟩ := row_cells HROW.out
  rw [byteRow_length]
  clear hmk HROW
  have hkl0 : n % (len + 1) ≤ len := Nat.le_of_lt_succ (Nat.mod_lt n (Nat.succ_pos len))
  have hrem0 : ((n : Int) % ((len : Int) + 1)) = ((n % (len + 1) : Nat) : Int) := (Int.natCast_emod n (len + 1)).symm
  obtain ⟨k, hkl, hrem⟩ : ∃ k : Nat, k ≤ len ∧ ((n : Int) % ((len : Int) + 1)) = (k : Int) := ⟨_, hkl0, hrem0⟩
  have hrem2 : Int.tmod (n : Int) ((len : Int) + 1) = (k : Int) := (Int.tmod_eq_emod_of_nonneg (by omega)).trans hrem
  clear hkl0 hrem0
  have h0 : 0 < w.heap.size := World.block_lt_of_cell? _ _ hg
  have hE : ea.block < w.heap.size := World.block_lt_of_cell? _ _ hs
  have hg1 : w1.cell? ⟨0, 0, none⟩ = some (.iface 83 (.pointer (some ea))) := (hb1.cell h0).trans hg
  have hs1 : w1.cell? ea = some (.string s) := (hb1.cell hE).trans hs
  have hl1 : 0 < w1.heap.size := Nat.lt_of_lt_of_le h0 hb1.size
  have hR0 : ¬ w1.heap.size = 0 := by omega
  have hR0' : ¬ 0 = w1.heap.size := by omega
  have hF1 : F.answers w1.tape := by rw [hb1.tape]; exact hF
  cases f
  · have HRD : Hid _ := reader_at (L := len) (cap := len) (k := k) hgl hcells hlo hhi
    have hbA : Below w1.heap.size w1 (w1.alloc (.cells #[.slice (some ⟨w.heap.size, 0, none⟩) len len, .int .i64 k, .nilIface] 48)) := (Below.refl _ _).alloc (Nat.le_refl _) _
    have HFA : Hid (FailAt F w1.heap.size ea s (w1.alloc (.cells #[.slice (some ⟨w.heap.size, 0, none⟩) len len, .int .i64 k, .nilIface] 48))) :=
      ⟨by rw [hbA.tape]; exact hF1, (hbA.cell hl1).trans hg1, (hbA.cell (World.block_lt_of_cell? _ _ hs1)).trans hs1, HRD.out.cErr, by simp⟩
    have HB : Hid (BytesAt (w1.alloc (.cells #[.slice (some ⟨w.heap.size, 0, none⟩) len len, .int .i64 k, .nilIface] 48)) (if len = k then some ⟨w.heap.size, 0, none⟩ else some ⟨w.heap.size, k, none⟩) w.heap.size k (len - k) (fun i => d (k + i))) :=
      ⟨fun h => if_neg (by omega), fun i hi => by have := HRD.out.cell (k + i) (by omega); rwa [Nat.zero_add] at this, fun i => hlo _, fun i => hhi _⟩
    have i1 : (k : Int) ≤ (len : Int) := by omega
    have i0 : (0 : Int) ≤ (k : Int) := by omega
    have HBEL : Hid _ := hb1.trans (hbA.mono hb1.size)
    clear hcells hlo hhi hsrc
    have HE := ends (len - k) (fun i => d (k + i))
    have HBAD : ((len - k ≤ 10 ∧ ∀ i, i < len - k → 128 ≤ d (k + i)) ∨ ∃ j, j < len - k ∧ (∀ i, i < j → 128 ≤ d (k + i)) ∧ (j = 10 ∨ j = 9 ∧ 1 < d (k + 9) ∧ d (k + 9) < 128)) →
        ∃ c : Int, decide (0 < c) = false ∧
          Hid (Calls Ybaf.prog 10 #[.slice (if len = k then some ⟨w.heap.size, 0, none⟩ else some ⟨w.heap.size, k, none⟩) (len - k) (len - k)] (w1.alloc (.cells #[.slice (some ⟨w.heap.size, 0, none⟩) len len, .int .i64 k, .nilIface] 48)) fun e w' =>
            e = .returned (.tuple #[.int .u64 0, .int .i64 c]) ∧ w' = (w1.alloc (.cells #[.slice (some ⟨w.heap.size, 0, none⟩) len len, .int .i64 k, .nilIface] 48))) ∧
          Hid (Calls Ybaf.prog 9 #[.pointer (some ⟨w1.heap.size, 0, none⟩)] (w1.alloc (.cells #[.slice (some ⟨w.heap.size, 0, none⟩) len len, .int .i64 k, .nilIface] 48)) fun e w' =>
            e = .returned (.int .u64 0) ∧ FailPost w1.heap.size ea (w1.alloc (.cells #[.slice (some ⟨w.heap.size, 0, none⟩) len len, .int .i64 k, .nilIface] 48)) w') := by
      rintro (⟨h1, h2⟩ | ⟨j, h1, h2, h3⟩)
      · exact ⟨0, by decide, dec_short _ _ _ _ _ _ _ h1 HB.out h2, rd_short F d _ _ _ _ _ _ ea s _ (Nat.le_refl _) HRD.out HFA.out hkl h1 h2⟩
      · exact ⟨-1, by decide, dec_over _ _ _ _ _ _ j _ (by omega) HB.out h1 h2 h3, rd_over F d _ _ _ _ _ _ ea s _ j (Nat.le_refl _) (by omega) HRD.out HFA.out (by omega) h2 h3⟩
    rcases HE with ⟨j, h1, h2, h3, h4, h5⟩ | hbad
    · have hne : ¬ len = k := by omega
      have HB2 := HB.out
      rw [if_neg hne] at HB2
      have HD : Hid _ := dec_ok (fun i => d (k + i)) _ _ _ _ (len - k) j _ (by omega) HB2 h1 h2 h3 h4 h5
      have HR : Hid _ := rd_ok d _ _ _ _ len k j _ (Nat.le_refl _) (by omega) HRD.out (by omega) h2 h3 h4 h5
      obtain ⟨v, hv⟩ : ∃ v, v = vF (fun i => d (k + i)) j := ⟨_, rfl⟩
      rw [← hv] at HD HR
      have HR2 : Hid (Calls Ybaf.prog 9 #[.pointer (some ⟨w1.heap.size, 0, none⟩)] (w1.alloc (.cells #[.slice (some ⟨w.heap.size, 0, none⟩) len len, .int .i64 k, .nilIface] 48)) fun e w' =>
          e = .returned (.int .u64 v) ∧ w'.cell? ⟨w1.heap.size, 1, none⟩ = some (.int .i64 ((k : Int) + ((j : Int) + 1))) ∧ w'.cell? ⟨w1.heap.size, 2, none⟩ = some .nilIface ∧ Below w1.heap.size (w1.alloc (.cells #[.slice (some ⟨w.heap.size, 0, none⟩) len len, .int .i64 k, .nilIface] 48)) w') :=
        Calls.mono HR.out fun e w' ⟨e1, m, e2⟩ => by
          subst e2
          refine ⟨e1, World.cell?_setCell_same _ _ _ HRD.out.cOff, (World.cell?_setCell_other _ _ _ _ (by simp)).trans HRD.out.cErr, ?_⟩
          exact Below.setCell (⟨rfl, rfl, rfl, Nat.le_refl _, fun _ _ => rfl⟩ : Below w1.heap.size (w1.alloc (.cells #[.slice (some ⟨w.heap.size, 0, none⟩) len len, .int .i64 k, .nilIface] 48)) (World.drewN (w1.alloc (.cells #[.slice (some ⟨w.heap.size, 0, none⟩) len len, .int .i64 k, .nilIface] 48)) m)) (Nat.le_refl _) _
      have z1 : decide ((0 : Int) < (j : Int) + 1) = true := decide_eq_true (by omega)
      clear HBAD HB HB2 HFA hv h3 h4 h5 HR HRD
      go_wp2_with (first
        | (go_at_call 10; refine Calls.mono HD.out ?_; rintro e w' ⟨rfl, rfl⟩)
        | (go_at_call 9; refine HR2.out.mono ?_; rintro e w' ⟨rfl, hc1, hc2, hbw⟩)
        | go_in)
      all_goals
        go_ret
        exact ⟨rfl, HBEL.out.trans (hbw.mono hb1.size)⟩
    · obtain ⟨c, hc, HD, HR⟩ := HBAD hbad
      clear HBAD hbad HB HFA HRD
      go_wp2_with (first
        | (go_at_call 10; refine HD.out.mono ?_; rintro e w' ⟨rfl, rfl⟩)
        | (go_at_call 9; refine HR.out.mono ?_; rintro e w' ⟨rfl, hP⟩)
        | go_in)
      all_goals
        obtain ⟨hPb, hP1, p, hP2, hP3⟩ := hP
        have hc1 : w'.cell? ⟨w1.heap.size, 1, none⟩ = some (.int .i64 k) := hP1.trans (by rw [World.cell?_alloc_at _ _ _ _ rfl]; rfl)
        have hcg : w'.cell? ⟨0, 0, none⟩ = some (.iface 83 (.pointer (some ea))) := (hPb.cell hl1).trans ((hbA.cell hl1).trans hg1)
        clear HD HR hP1
        go_quiet ((go_at_call 11; exact Calls.quiet_of_same (is_wrap_same p 0 ea _ (by exact hP3))))
        go_wp2
        go_ret
        exact ⟨rfl, below_drewN (HBEL.out.trans (hPb.mono hb1.size)) _⟩
  · obtain ⟨i, hi, hcmp⟩ := Option.map_eq_some_iff.1 isComp
    obtain ⟨j, hj, hjs⟩ := Option.map_eq_some_iff.1 isSize
    have heq := fun y => run_eql_iface_ptr_same (P := Ybaf.prog) y ea Ybaf.underlying39 Ybaf.underlying83 hi hcmp hj
    go_wp2_with (first | (go_at_call 9; refine (rd_failed _ (.pointer (some ea)) _ (by go_simp)).mono ?_; rintro e w' ⟨rfl, rfl⟩) | go_in)
    go_quiet (fail)
    go_wp2
    go_ret
    exact ⟨rfl, below_drewN (hb1.trans (((Below.refl _ _).alloc (Nat.le_refl _) _).mono hb1.size)) _⟩
end Go.Proofs.YbulkaahuFmt
