/-
  Reader.Uvarint WHERE IT FAILS: a number cut short, a number too wide, a reader that has failed before.
-/
import Derived.Test.YbulkaahuFmtBRead
import Derived.Test.YbulkaahuFmtBErr
namespace Go.Proofs.YbulkaahuFmt
open Go.RowKit Go.Extern.Stop Go.Stop Go.Extern

/-- The reader has failed before: nothing is read. -/
theorem rd_failed (R : Nat) (v : Value) (w : World) (c2 : w.cell? ⟨R, 2, none⟩ = some (.iface 83 v)) :
    Calls Ybaf.prog 9 #[.pointer (some ⟨R, 0, none⟩)] w fun e w' => e = .returned (.int .u64 0) ∧ w' = w := by
  go_enter Ybaf.func9, Ybaf.ntmps9
  go_wp2
  go_ret
  exact ⟨rfl, rfl⟩

theorem FailPost.back {R : Nat} {a : Addr} {w w' : World} {m : Nat} {o : Obj} (hR : R < w.heap.size) (h : FailPost R a ((w.drewN m).alloc o) w') : FailPost R a w w' := by
  have hB : Below w.heap.size w ((w.drewN m).alloc o) := (⟨rfl, rfl, rfl, Nat.le_refl _, fun _ _ => rfl⟩ : Below w.heap.size w (w.drewN m)).alloc (Nat.le_refl _) o
  obtain ⟨h1, h2, h3⟩ := h
  exact ⟨(hB.mono (Nat.le_of_lt hR)).trans h1, h2.trans (hB.cell hR), h3⟩

theorem new_cell (w : World) (m : Nat) (v : Value) (t : TypeId) : ((w.drewN m).alloc (.cells #[v] t)).cell? ⟨w.heap.size, 0, none⟩ = some v := by
  show (w.alloc (.cells #[v] t)).cell? ⟨w.heap.size, 0, none⟩ = some v
  simp

section
variable (F : Interp) (d : Nat → Int) (R g o L cap off : Nat) (a : Addr) (s : ByteArray) (w : World)

/-- What both failures ask: the sentinel lies there, and the reader's error may be written. -/
structure FailAt (F : Interp) (R : Nat) (a : Addr) (s : ByteArray) (w : World) : Prop where
  ans : F.answers w.tape
  glob : w.cell? ⟨0, 0, none⟩ = some (.iface 83 (.pointer (some a)))
  text : w.cell? a = some (.string s)
  err : w.cell? ⟨R, 2, none⟩ = some .nilIface
  free : w.frozen? ⟨R, 2, none⟩ = false

variable {F R a s w} in
theorem FailAt.past (h : FailAt F R a s w) (m : Nat) (o : Obj) : FailAt F R a s ((w.drewN m).alloc o) := by
  have hB : Below w.heap.size w ((w.drewN m).alloc o) := (⟨rfl, rfl, rfl, Nat.le_refl _, fun _ _ => rfl⟩ : Below w.heap.size w (w.drewN m)).alloc (Nat.le_refl _) o
  have hR : R < w.heap.size := World.block_lt_of_cell? _ _ h.err
  exact ⟨by rw [hB.tape]; exact h.ans, (hB.cell (World.block_lt_of_cell? _ _ h.glob)).trans h.glob, (hB.cell (World.block_lt_of_cell? _ _ h.text)).trans h.text, (hB.cell hR).trans h.err, (hB.frozen (p := ⟨R, 2, none⟩) hR).trans h.free⟩

set_option maxHeartbeats 1000000 in
set_option maxRecDepth 20000 in
theorem rd_short (hL : L ≤ cap) (hR : ReaderAt w R g o L cap off d) (hA : FailAt F R a s w) (hle : off ≤ L) (hn : L - off ≤ 10) (hall : ∀ i, i < L - off → 128 ≤ d (off + i)) :
    Calls Ybaf.prog 9 #[.pointer (some ⟨R, 0, none⟩)] w fun e w' => e = .returned (.int .u64 0) ∧ FailPost R a w w' := by
  have c0 := hR.cData
  have c1 := hR.cOff
  have c2 := hR.cErr
  have i0 : (0 : Int) ≤ (off : Int) := by omega
  have i1 : (off : Int) ≤ (L : Int) := by omega
  have hRl : R < w.heap.size := World.block_lt_of_cell? _ _ c2
  have HP : Hid (∀ m, Calls Ybaf.prog 16 #[.pointer (some ⟨R, 0, none⟩), .string ⟨#[99, 117, 116, 32, 115, 104, 111, 114, 116, 32, 97, 116, 32, 98, 121, 116, 101, 32, 37, 100]⟩, .slice (some ⟨w.heap.size, 0, none⟩) 1 1]
      ((w.drewN m).alloc (.cells #[.iface 3 (.int .i64 (L : Int))] 20)) fun e w' => e = .returned (.tuple #[]) ∧ FailPost R a w w') := fun m => by
    have hp := hA.past m (.cells #[.iface 3 (.int .i64 (L : Int))] 20)
    exact (fail_short F R w.heap.size (L : Int) a s _ hp.ans hp.glob hp.text (new_cell w m _ _) hp.err hp.free).mono fun e w' ⟨h1, h2⟩ => ⟨h1, h2.back hRl⟩
  by_cases hne : cap = off
  · obtain rfl : L = off := by omega
    subst hne
    have HU : Hid (∀ m, Calls Ybaf.prog 15 #[.slice (some ⟨g, o, none⟩) 0 0] (w.drewN m) fun e w' => e = .returned (.tuple #[.int .u64 0, .int .i64 0]) ∧ w' = w.drewN m) := fun m =>
      uv_short (fun i => d (cap + i)) _ g (o + cap) 0 0 _ (by omega) ⟨fun h => absurd h (by omega), fun i hi => absurd hi (by omega), fun i => hR.lo _, fun i => hR.hi _⟩ (fun i hi => absurd hi (by omega))
    clear hR hall hA
    go_enter Ybaf.func9, Ybaf.ntmps9
    go_wp2
    go_quiet ((go_at_call 15; exact Calls.quiet_of_same (HU.out _)))
    go_wp2_with (first | (go_at_call 16; refine (HP.out _).mono ?_; rintro e w' ⟨rfl, hP⟩) | go_in)
    go_ret
    exact ⟨rfl, hP⟩
  · have HU : Hid (∀ m, Calls Ybaf.prog 15 #[.slice (some ⟨g, o + off, none⟩) (L - off) (cap - off)] (w.drewN m) fun e w' => e = .returned (.tuple #[.int .u64 0, .int .i64 0]) ∧ w' = w.drewN m) := fun m =>
      uv_short (fun i => d (off + i)) _ g (o + off) (L - off) (cap - off) _ hn (hR.bytes m) hall
    clear hR hall hA
    go_enter Ybaf.func9, Ybaf.ntmps9
    go_wp2
    go_quiet ((go_at_call 15; exact Calls.quiet_of_same (HU.out _)))
    go_wp2_with (first | (go_at_call 16; refine (HP.out _).mono ?_; rintro e w' ⟨rfl, hP⟩) | go_in)
    go_ret
    exact ⟨rfl, hP⟩

set_option maxHeartbeats 1000000 in
set_option maxRecDepth 20000 in
theorem rd_over (k : Nat) (hL : L ≤ cap) (hcap : cap ≤ 9223372036854775807) (hR : ReaderAt w R g o L cap off d) (hA : FailAt F R a s w) (hk : off + k < L) (hall : ∀ i, i < k → 128 ≤ d (off + i)) (hov : k = 10 ∨ k = 9 ∧ 1 < d (off + 9) ∧ d (off + 9) < 128) :
    Calls Ybaf.prog 9 #[.pointer (some ⟨R, 0, none⟩)] w fun e w' => e = .returned (.int .u64 0) ∧ FailPost R a w w' := by
  have c0 := hR.cData
  have c1 := hR.cOff
  have c2 := hR.cErr
  have i0 : (0 : Int) ≤ (off : Int) := by omega
  have i1 : (off : Int) ≤ (L : Int) := by omega
  have i2 : off ≤ L := by omega
  have hRl : R < w.heap.size := World.block_lt_of_cell? _ _ c2
  have hne : ¬ cap = off := by omega
  have HP : Hid (∀ m, Calls Ybaf.prog 16 #[.pointer (some ⟨R, 0, none⟩), .string ⟨#[110, 117, 109, 98, 101, 114, 32, 97, 116, 32, 98, 121, 116, 101, 32, 37, 100, 32, 111, 118, 101, 114, 102, 108, 111, 119, 115, 32, 54, 52, 32, 98, 105, 116, 115]⟩, .slice (some ⟨w.heap.size, 0, none⟩) 1 1]
      ((w.drewN m).alloc (.cells #[.iface 3 (.int .i64 (off : Int))] 20)) fun e w' => e = .returned (.tuple #[]) ∧ FailPost R a w w') := fun m => by
    have hp := hA.past m (.cells #[.iface 3 (.int .i64 (off : Int))] 20)
    exact (fail_over F R w.heap.size (off : Int) a s _ hp.ans hp.glob hp.text (new_cell w m _ _) hp.err hp.free).mono fun e w' ⟨h1, h2⟩ => ⟨h1, h2.back hRl⟩
  have HU : Hid (∀ m, Calls Ybaf.prog 15 #[.slice (some ⟨g, o + off, none⟩) (L - off) (cap - off)] (w.drewN m) fun e w' => e = .returned (.tuple #[.int .u64 0, .int .i64 (-((k : Int) + 1))]) ∧ w' = w.drewN m) := fun m =>
    uv_over (fun i => d (off + i)) _ g (o + off) (L - off) (cap - off) k _ (by omega) (hR.bytes m) (by omega) hall hov
  have z1 : ((-((k : Int) + 1)) == 0) = false := by simp; omega
  have z2 : decide ((-((k : Int) + 1)) < 0) = true := decide_eq_true (by omega)
  clear hR hall hA hov
  go_enter Ybaf.func9, Ybaf.ntmps9
  go_wp2
  go_quiet ((go_at_call 15; exact Calls.quiet_of_same (HU.out _)))
  go_wp2_with (first | (go_at_call 16; refine (HP.out _).mono ?_; rintro e w' ⟨rfl, hP⟩) | go_in)
  go_ret
  exact ⟨rfl, hP⟩
end
end Go.Proofs.YbulkaahuFmt
